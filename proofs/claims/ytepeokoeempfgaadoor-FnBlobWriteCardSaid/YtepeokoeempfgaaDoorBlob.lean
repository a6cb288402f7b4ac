/-
  A message is written: (resp3.BlobString).MarshalRESP, resp3.marshalAggHeader, (resp3.ArrayHeader).MarshalRESP.
-/
import Derived.Test.YtepeokoeempfgaaDoorMid
import Derived.Test.YtepeokoeempfgaaDoorTwo
import Derived.Deep.RegionHeld3
import Derived.Test.YtepeokoeempfgaaDoorWire
namespace Go.Proofs.YtepeokoeempfgaaDoor
open Go.RowKit
set_option linter.unusedVariables false
set_option linter.unusedSimpArgs false

theorem Mid.still {B : Nat} {w w1 : World} {o p r b : Nat} {h : Option Nat} {bv : Value} {l : List UInt8} {sc : Nat} {v : Value} {li : List UInt8} (hm : Mid B w o p r b h bv l sc v li) (hg : w.grownBy w1 v.ownBlock) : w1.cell? ⟨sc, 0, none⟩ = some v ∧ w1.frozen? ⟨sc, 0, none⟩ = false := by
  have hb : Blk w1 sc 50 #[v] := hm.scr.1.chg (chg_of_grown hg) (fun hi => own_blk_ne' hm.scr.2.1 (mem_toList hi) hm.scr.1 (by decide) rfl)
  exact ⟨by rw [hb.cell]; rfl, hb.frozen 0⟩
theorem Mid.cell {B : Nat} {w : World} {o p r b : Nat} {h : Option Nat} {bv : Value} {l : List UInt8} {sc : Nat} {v : Value} {li : List UInt8} (hm : Mid B w o p r b h bv l sc v li) : w.cell? ⟨sc, 0, none⟩ = some v ∧ w.frozen? ⟨sc, 0, none⟩ = false := hm.still (grown_refl _ _)
/-- THE DOOR, with one call. -/
theorem door_call {P : Program} {g : FuncId} {fn : Func} {tmps cap dargs args : Array Value} {R : Ending → World → Prop} {w : World} {Q : World → Prop}
    (hc : CallsD P g args .returning w fun e u' w' => e = .returned (.tuple #[]) ∧ u' = .returning ∧ Q w') (hcf : (invoke (.fn (.func g) cap) dargs).run P w = .ok (.enter g args) w)
    (h : ∀ w', Q w' → ∃ v, (results fn tmps).run P w' = .ok v w' ∧ R (.returned v) w') : Leaves P fn tmps R [{ target := .fn (.func g) cap, args := dargs }] .returning w := by
  refine leaves_cons (f := g) (args := args) (by simp) hcf ?_
  refine hc.mono ?_
  rintro e u' w' ⟨rfl, rfl, hq⟩
  simpa [Leaves, settle] using h w' hq
theorem step_append {P : Program} {ops : Array Oper} {o : Oper} {a : Act} {w w' : World} {K : Act → World → Prop} {Q : Exit → Act → World → Prop} {E : Prop}
    (hgd : o.guard = none) (sl x : Operand) (t u : TypeId) (ho : o.op = .call { callee := .builtin .append, args := #[sl, x], argTypes := #[t, u] }) (v1 v2 r : Value) (hs : a.eval sl = v1) (hx : a.eval x = v2)
    (hr : (Builtin.append_ #[t, u] o.type #[v1, v2]).run P w = .ok r w') (h : K (a.put o.dst r) w') : if Region.wanted o (yielded ops a.tmps) = true then Oper.wp P o a w K Q else E := by
  have hw : Region.wanted o (yielded ops a.tmps) = true := by simp [Region.wanted, hgd]
  rw [if_pos hw]
  unfold Oper.wp execOp
  simp only [ho, resolve, invoke, builtin, Sem.run_bind, Sem.run_pure, Result.andThen_ok, List.map_toArray, List.map_cons, List.map_nil, hs, hx, hr]
  exact h

theorem Mid.keeps {B : Nat} {w w1 : World} {o p r b : Nat} {h : Option Nat} {bv : Value} {l : List UInt8} {sc : Nat} {v : Value} {li : List UInt8} (hm : Mid B w o p r b h bv l sc v li) (hg : w.grownBy w1 v.ownBlock) {k : Nat} {t : TypeId} {cs : Array Value} (hb : Blk w k t cs) (ht : 5 ≠ t) : Blk w1 k t cs :=
  hb.chg (chg_of_grown hg) (fun hi => own_blk_ne' hm.scr.2.1 (mem_toList hi) hb ht rfl)
theorem Mid.form {B : Nat} {w : World} {o p r b : Nat} {h : Option Nat} {bv : Value} {l : List UInt8} {sc : Nat} {v : Value} {li : List UInt8} (hm : Mid B w o p r b h bv l sc v li) : ∃ g n c, v = .slice (some ⟨g, 0, none⟩) n c ∧ Hid (n = li.length ∧ n ≤ c ∧ c ≤ maxLen ∧ g < w.heap.size) := by
  rcases hm.scr.2.1.2 with ⟨e, _⟩ | ⟨g, cap, cur, rfl, _, hg, h1, h2, _⟩
  · exact absurd (by rw [e]; rfl) hm.scr.2.2
  · exact ⟨g, _, cap, rfl, hide ⟨rfl, h1, h2, Blk.lt (t := 5) hg⟩⟩
theorem method_write (b : Nat) (w : World) : (method 347 65 (.pointer (some ⟨b, 0, none⟩)) "Write").run Tryd.prog w = .ok (122, .pointer (some ⟨b, 0, none⟩)) w := by kernel_rfl
/-- What one message leaves. -/
def MsgP (B o p r b : Nat) (l li : List UInt8) (w w' : World) : Prop := St B w' o p r b (l ++ li) ∧ Fr B w w'

theorem rb_at {w : World} {a : Addr} {l : List UInt8} (h : RBytes w (some a) l) : ∀ j (hj : j < l.length), w.cell? (a.add j) = some (.int .u8 (l[j].toNat)) := by
  intro j hj
  obtain ⟨ad, e, _, hc⟩ := h.2 (by omega)
  injection e with e
  subst e
  exact hc j _ (by rw [bs_getElem?, List.getElem?_eq_getElem hj]; rfl)
theorem blobW_list (s : ByteArray) : (blobW s).data.toList = ([] ++ [36]) ++ Lib.decDigits s.size ++ [13, 10] ++ s.data.toList ++ [13, 10] := by
  simp [blobW, decT, crlf, ByteArray.data_append]
theorem Mid.writes {B : Nat} {w : World} {o p r b : Nat} {h : Option Nat} {bv : Value} {l : List UInt8} {sc g n c : Nat} {li : List UInt8} (hm : Mid B w o p r b h bv l sc (.slice (some ⟨g, 0, none⟩) n c) li) (hn : n = li.length) (h1 : li ≠ []) (hl : l.length + li.length ≤ 100000000) :
    Calls Tryd.prog 122 #[.pointer (some ⟨b, 0, none⟩), .slice (some ⟨g, 0, none⟩) n c] w fun e w' => e = .returned (.tuple #[.int .i64 n, .nilIface]) ∧ WritePost w w' b bv l li := by
  obtain ⟨lr, hb⟩ := hm.rest.buf
  obtain ⟨cur, hg⟩ := own_blk hm.scr.2.1 (k := g) rfl
  have hp : 0 < li.length := List.length_pos_iff.2 h1
  exact write_any b n c bv lr l li ⟨g, 0, none⟩ w hb hm.rest.own hm.rest.hz hn.symm (by omega) (by omega) (Blk.ne_ hg hb (by decide)) hm.ne (OwnB.cells hm.scr.2.1) hg.lt
end Go.Proofs.YtepeokoeempfgaaDoor
