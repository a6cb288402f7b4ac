/-
  io.CopyN into a buffer; what it leaves of the state.
-/
import Derived.Test.YtepeokoeempfgaaDoorRdLoop
namespace Go.Proofs.YtepeokoeempfgaaDoor
open Go.RowKit
set_option linter.unusedVariables false
set_option linter.unusedSimpArgs false

/-- A method that a type lacks. -/
theorem miss_one (n : String) (k : TypeId) (got : Array Method) (h : (got.any fun m => m.name == n && m.sig == k) = false) : ∃ m, Instr.missingMethod #[(n, k)] got = some m := by
  unfold Instr.missingMethod
  have e : (#[(n, k)] : Array (String × TypeId)).toList.filter (fun (name, sig) => !got.any fun m => m.name == name && m.sig == sig) = [(n, k)] := by
    simp only [List.filter_cons, h, List.filter_nil]
    rfl
  simp only [e, List.map_cons, List.map_nil]
  cases hc : n.contains (Char.ofNat 46)
  · have : List.partition (fun s : String => s.contains (Char.ofNat 46)) [n] = ([], [n]) := by simp [List.partition, List.partition.loop, hc]
    rw [this]
    exact ⟨n, rfl⟩
  · have : List.partition (fun s : String => s.contains (Char.ofNat 46)) [n] = ([n], []) := by simp [List.partition, List.partition.loop, hc]
    rw [this]
    exact ⟨_, rfl⟩
theorem as_wt_no (x : Value) (w : World) : (Instr.typeAssert (.iface 145 x) 82 171 true).run Tryd.prog w = .ok (.tuple #[.nilIface, .bool false]) w := by
  obtain ⟨m, hm⟩ := miss_one "WriteTo" 173 Tryd.t145.methods (by kernel_rfl)
  unfold Instr.typeAssert
  simp [hm]
theorem as_rf_yes (x : Value) (w : World) : (Instr.typeAssert (.iface 65 x) 90 175 true).run Tryd.prog w = .ok (.tuple #[.iface 65 x, .bool true]) w := by kernel_rfl
theorem meth_readFrom (b : Nat) (w : World) : (method 347 65 (.pointer (some ⟨b, 0, none⟩)) "ReadFrom").run Tryd.prog w = .ok (120, .pointer (some ⟨b, 0, none⟩)) w := by kernel_rfl

set_option maxRecDepth 100000 in
set_option maxHeartbeats 1000000 in
theorem copyBuf_any (b q : Nat) (x : Int) (w : World) (R : World → Prop) (H : Calls Tryd.prog 120 #[.pointer (some ⟨b, 0, none⟩), .iface 145 (.pointer (some ⟨q, 0, none⟩))] w fun e w' => e = .returned (.tuple #[.int .i64 x, .nilIface]) ∧ R w') :
    Calls Tryd.prog 61 #[.iface 65 (.pointer (some ⟨b, 0, none⟩)), .iface 145 (.pointer (some ⟨q, 0, none⟩)), .slice none 0 0] w fun e w' => e = .returned (.tuple #[.int .i64 x, .nilIface]) ∧ R w' := by
  have A1 := as_wt_no (.pointer (some ⟨q, 0, none⟩))
  have A2 := as_rf_yes (.pointer (some ⟨b, 0, none⟩))
  have MR := meth_readFrom b
  have HH := hide H
  clear H
  go_enter Tryd.func61, Tryd.ntmps61
  go_wp2_with fail
  refine HH.out.mono ?_
  rintro e w1 ⟨rfl, hR⟩
  have HR := hide hR
  clear hR HH
  go_wp2
  go_ret2
  exact ⟨rfl, HR.out⟩
set_option maxRecDepth 100000 in
theorem copy_any (b q : Nat) (x : Int) (w : World) (R : World → Prop) (H : Calls Tryd.prog 120 #[.pointer (some ⟨b, 0, none⟩), .iface 145 (.pointer (some ⟨q, 0, none⟩))] w fun e w' => e = .returned (.tuple #[.int .i64 x, .nilIface]) ∧ R w') :
    Calls Tryd.prog 53 #[.iface 65 (.pointer (some ⟨b, 0, none⟩)), .iface 145 (.pointer (some ⟨q, 0, none⟩))] w fun e w' => e = .returned (.tuple #[.int .i64 x, .nilIface]) ∧ R w' := by
  have HH := hide (copyBuf_any b q x w R H)
  clear H
  go_enter Tryd.func53, Tryd.ntmps53
  go_wp2_with fail
  refine HH.out.mono ?_
  rintro e w1 ⟨rfl, hR⟩
  have HR := hide hR
  clear hR HH
  go_wp2
  go_ret2
  exact ⟨rfl, HR.out⟩
set_option maxRecDepth 100000 in
theorem limitReader_any (v : Value) (k : Nat) (n : Int) (w : World) (hv : v = .iface 83 (.pointer (some ⟨k, 0, none⟩))) :
    Calls Tryd.prog 54 #[v, .int .i64 n] w fun e w' => e = .returned (.iface 145 (.pointer (some ⟨w.heap.size, 0, none⟩))) ∧ w' = w.alloc (.cells #[v, .int .i64 n] 147) := by
  subst hv
  go_enter Tryd.func54, Tryd.ntmps54
  go_wp2
  go_ret
  exact ⟨rfl, rfl⟩

/-- What CopyN leaves. -/
def CopyS (w : World) (B b k g : Nat) (bv : Value) (l text : List UInt8) (n : Nat) (ad : Addr) (e : Ending) (w' : World) : Prop :=
  e = .returned (.tuple #[.int .i64 (min n text.length : Nat), if n ≤ text.length then .nilIface else .iface 215 (.pointer (some ad))]) ∧ ∃ w1 q, Ext w w1 ∧ w.heap.size ≤ q ∧ RdI w1 w' B b q k g bv l text n n ad (min n text.length)

set_option maxRecDepth 100000 in
set_option maxHeartbeats 2000000 in
theorem copyN_any (B b k g : Nat) (bv : Value) (lr : Int) (l text : List UInt8) (n : Nat) (ad : Addr) (w : World) (hb : BufB w b bv lr) (ho : OwnB w bv l) (hl : 1 ≤ l.length) (hlm : l.length ≤ 50000000) (hn : n ≤ 10000) (htx : text.length ≤ 10000)
    (hbB : B ≤ b) (hv0 : ∀ x, bv.ownBlock = some x → B ≤ x) (hwB : B ≤ w.heap.size) (hk : Blk w k 85 #[.iface 60 (.pointer (some ⟨g, 0, none⟩)), .int .i64 n]) (hg : RdA w g text) (hkB : B ≤ k) (hgB : B ≤ g) (hE : EofAt w B ad) :
    Calls Tryd.prog 39 #[.iface 65 (.pointer (some ⟨b, 0, none⟩)), .iface 83 (.pointer (some ⟨k, 0, none⟩)), .int .i64 n] w (CopyS w B b k g bv l text n ad) := by
  obtain ⟨W, hW⟩ : ∃ W, W = w.alloc (.cells #[.iface 83 (.pointer (some ⟨k, 0, none⟩)), .int .i64 n] 147) := ⟨_, rfl⟩
  have hx : Ext w W := by rw [hW]; exact (Ext.refl w).alloc _
  have hc := Chg.of_ext hx []
  have hq : Blk W w.heap.size 147 #[.iface 83 (.pointer (some ⟨k, 0, none⟩)), .int .i64 n] := by rw [hW]; exact Blk.new w _ _
  have RF := hide (copy_any b w.heap.size (min n text.length : Nat) W _ (readFrom_any B b w.heap.size k g bv lr l text n n ad W (Blk.chg (show Blk w b _ _ from hb) hc (by simp)) (own_chg ho hc (by simp)) hl hlm (by omega) (by omega) (by omega) htx hbB hv0 (Nat.le_trans hwB hx.sizes) ⟨hq, hk.chg hc (by simp), hg.chg hc (by simp), hwB, hkB, hgB⟩ (hE.chg hc (by simp)) rfl))
  have LM := hide (limitReader_any (.iface 83 (.pointer (some ⟨k, 0, none⟩))) k n w rfl)
  have HX := hide hx
  have hmn : ((min n text.length : Nat) : Int) ≤ 10000 := by omega
  have hEB := hE.1
  clear hb ho hv0 hk hg hE hx hc hq
  rw [← hW] at LM
  clear hW
  by_cases hle : n ≤ text.length
  · have hm : min n text.length = n := Nat.min_eq_left hle
    have hm0 := HX
    unfold CopyS
    rw [if_pos hle]
    rw [hm] at RF ⊢
    have hn' : (n : Int) ≤ 10000 := by omega
    clear hm
    go_enter Tryd.func39, Tryd.ntmps39
    go_wp2_with fail
    refine LM.out.mono ?_
    rintro e w1 ⟨rfl, rfl⟩
    go_wp2_with fail
    refine RF.out.mono ?_
    rintro e w2 ⟨rfl, hR⟩
    have HR := hide hR
    clear hR RF LM
    go_wp2
    go_ret2
    exact ⟨rfl, _, _, HX.out, Nat.le_refl _, HR.out⟩
  · have hm : min n text.length = text.length := Nat.min_eq_right (by omega)
    unfold CopyS
    rw [if_neg hle]
    rw [hm] at RF ⊢
    have h1 : ¬ (text.length : Int) = n := by omega
    have h2 : (text.length : Int) < n := by omega
    clear hm
    go_enter Tryd.func39, Tryd.ntmps39
    go_wp2_with fail
    refine LM.out.mono ?_
    rintro e w1 ⟨rfl, rfl⟩
    go_wp2_with fail
    refine RF.out.mono ?_
    rintro e w2 ⟨rfl, hR⟩
    have c0 := hR.eof.2.2
    have HR := hide hR
    clear hR RF LM
    go_wp2
    go_ret2
    exact ⟨rfl, _, _, HX.out, Nat.le_refl _, HR.out⟩

/-- The state behind a read into the buffer. -/
theorem Mid.read {B : Nat} {w w1 w' : World} {o p r b q k g n j : Nat} {h : Option Nat} {bv : Value} {l text : List UInt8} {sc : Nat} {v : Value} {li : List UInt8} {L : Int} {ad : Addr} {ck cg : Array Value} (hm : Mid B w o p r b h bv l sc v li) (hx : Ext w w1) (hq : w.heap.size ≤ q)
    (hk : Blk w k 85 ck) (hg : Blk w g 88 cg) (hkB : B ≤ k) (hgB : B ≤ g) (hR : RdI w1 w' B b q k g bv l text n L ad j) (hl : 1 ≤ l.length) : ∃ bv', Mid B w' o p r b h bv' (l ++ text.take j) sc v li ∧ Below B w w' := by
  obtain ⟨hr, hp, hs, hne, gs, gw⟩ := hm
  obtain ⟨bv', lr', h1, h2, h4⟩ := hR.buf
  obtain ⟨lr, hb⟩ := hr.buf
  have hb' : Blk w b 54 _ := hb
  obtain ⟨pc, hpb⟩ := hp.blk
  have h5 : Chg (b :: k :: g :: bv.ownBlock.toList) w w' := (Chg.of_ext hx _).then hR.chg (fun i hi => by
    simp only [List.mem_cons] at hi ⊢
    rcases hi with rfl | rfl | rfl | rfl | hi
    · exact .inl (.inl rfl)
    · exact .inr hq
    · exact .inl (.inr (.inl rfl))
    · exact .inl (.inr (.inr (.inl rfl)))
    · exact .inl (.inr (.inr (.inr hi))))
  have nn : ∀ {i : Nat} {t : TypeId} {cs : Array Value}, Blk w i t cs → t ≠ 54 → t ≠ 85 → t ≠ 88 → (t ≠ 5 ∨ bv.ownBlock ≠ some i) → i ∉ b :: k :: g :: bv.ownBlock.toList := by
    intro i t cs hi ht t2 t3 ht2 hmem
    simp only [List.mem_cons] at hmem
    rcases hmem with e | e | e | e
    · exact Blk.ne_ hi hb' ht e
    · exact Blk.ne_ hi hk t2 e
    · exact Blk.ne_ hi hg t3 e
    · have e := mem_toList e
      rcases ht2 with ht2 | ht2
      · exact own_blk_ne' hr.own e hi (fun h => ht2 h.symm) rfl
      · exact ht2 e
  have hbel : Below B w w' := h5.below (fun i hi => by
    simp only [List.mem_cons] at hi
    rcases hi with rfl | rfl | rfl | hi
    · exact hr.gb
    · exact hkB
    · exact hgB
    · exact hr.gv i (mem_toList hi)) hr.hB
  refine ⟨bv', ⟨⟨Nat.le_trans hr.hB h5.size, Lib.TabBelow.on hr.tab hbel, Blk.chg (show Blk w o _ _ from hr.opts) h5 (nn hr.opts (by decide) (by decide) (by decide) (.inl (by decide))), ⟨lr', h1⟩, h2, fun _ => ?_, hr.gp, hr.gb, hr.gh, fun x hx2 => ?_⟩, hp.chg h5 (nn hpb (by decide) (by decide) (by decide) (.inl (by decide))) (fun x hx2 => ?_), hs.chg h5 (nn hs.1 (by decide) (by decide) (by decide) (.inl (by decide))) (fun x hx2 => ?_), ?_, gs, gw⟩, hbel⟩
  · rw [List.length_append]; omega
  · rcases h4 with e | ⟨y, e, hy⟩
    · exact hr.gv x (by rw [← e]; exact hx2)
    · rw [e] at hx2; injection hx2 with hx2; subst hx2; exact Nat.le_trans hr.hB (Nat.le_trans hx.sizes hy)
  · obtain ⟨rc, hrb⟩ := hp.row hx2
    exact nn hrb (by decide) (by decide) (by decide) (.inl (by decide))
  · obtain ⟨cur, hgg⟩ := own_blk hs.2.1 hx2
    exact nn hgg (by decide) (by decide) (by decide) (.inr (by rw [← hx2]; exact hne))
  · rcases h4 with e | ⟨y, e, hy⟩
    · rw [e]; exact hne
    · rw [e]
      intro e2
      have h9 := (hs.2.1.lt y e2.symm).2
      have h8 := hx.sizes
      omega
end Go.Proofs.YtepeokoeempfgaaDoor
