/-
  spec.BlobWire, spec.Texts.
-/
import Derived.Test.YtepeokoeempfgaaDoorApp
import Derived.Deep.RegionWith
namespace Go.Proofs.YtepeokoeempfgaaDoor
open Go.RowKit
set_option linter.unusedVariables false
set_option linter.unusedSimpArgs false

def crlf : ByteArray := ⟨#[13, 10]⟩
def decT (n : Nat) : ByteArray := ⟨(Lib.decDigits n).toArray⟩
def blobW (s : ByteArray) : ByteArray := (⟨#[36]⟩ : ByteArray) ++ decT s.size ++ crlf ++ s ++ crlf

theorem decT_size (n : Nat) (h : n < 18446744073709551616) : (decT n).size ≤ 20 := by
  have e : (decT n).size = (Lib.decDigits n).length := by simp [decT, ByteArray.size]
  rw [e, Lib.decDigits_length]
  exact Lib.nDigits_le20 n h
theorem wrap_small (n : Int) (h1 : 0 ≤ n) (h2 : n ≤ 1000000) : IntKind.u64.wrap n = n := by
  simp [IntKind.wrap, IntKind.bits, IntKind.signed]
  omega
set_option maxRecDepth 100000 in
set_option maxHeartbeats 1000000 in
theorem blobWire_any (s : ByteArray) (hs : s.size ≤ 1000000) (w : World) :
    Calls Tryd.prog 13 #[.int .u8 36, .string s] w fun e w' => e = .returned (.string (blobW s)) ∧ Ext w w' := by
  have hw : IntKind.u64.wrap (s.size : Int) = (s.size : Int) := wrap_small _ (by omega) (by omega)
  have DG : Hid (∀ w, Calls Tryd.prog 30 #[.int .u64 (IntKind.u64.wrap (s.size : Int))] w fun e w' => e = .returned (.string (decT s.size)) ∧ Ext w w') := hide fun w => by rw [hw]; exact digits_any s.size (by omega) w
  clear hw
  have hD := decT_size s.size (by omega)
  unfold blobW crlf
  generalize decT s.size = D at DG hD ⊢
  have p1 : ((⟨#[36]⟩ : ByteArray) ++ D).size ≤ 1000 := by simp [ByteArray.size_append]; have : (⟨#[36]⟩ : ByteArray).size = 1 := rfl; omega
  have hcv : ∀ wx (b : Nat), wx.cell? ⟨b, 0, none⟩ = some (.int .u8 36) → (convert 50 9 (.slice (some ⟨b, 0, none⟩) 1 1)).run Tryd.prog wx = .ok (.string ⟨#[36]⟩) wx := fun wx b hc =>
    run_string_n wx _ _ _ Tryd.underlying50 Tryd.underlying5 Tryd.underlying9 (l := [36]) 1 1 rfl ⟨by simp [bs], fun _ => ⟨_, rfl, by
      rcases Nat.lt_or_ge b wx.heap.size with h | h
      · exact h
      · simp [World.cell?, Array.getElem?_eq_none h] at hc, fun j u hu => by
      have hj : j = 0 := by
        have := (List.getElem?_eq_some_iff.1 hu).1
        simp [bs] at this
        omega
      subst hj
      simp [bs] at hu
      have ha : (⟨b, 0, none⟩ : Addr).add 0 = ⟨b, 0, none⟩ := by simp [Addr.add_lit]
      rw [ha, hc, ← hu]⟩⟩
  have hsz : (s.size : Int) ≤ 1000000 := by omega
  have hsz0 : (0 : Int) ≤ (s.size : Int) := by omega
  go_enter Tryd.func13, Tryd.ntmps13
  go_wp2
  go_region_with (first | (go_at_call 30; refine (DG.out _).mono ?_; rintro e w1 ⟨rfl, hx⟩; have HX := hide hx; first | (have hcq := fun h => hx.cellOf (p := ⟨w.heap.size, 0, none⟩) (v := .int .u8 36) h; simp [go_sem] at hcq; have hcx := hcv _ _ hcq) | skip))
  all_goals
    go_wp2
    go_ret
  · exact ⟨rfl, (((Ext.refl w).alloc _).drew).trans HX.out⟩
  · exact ⟨rfl, (((Ext.refl w).alloc _).drew).trans HX.out⟩
  · exact ⟨rfl, (((Ext.refl w).drew).trans HX.out).alloc _⟩

/-- What so many texts are on the wire. -/
def wireL : List ByteArray → ByteArray
  | [] => ⟨#[]⟩
  | a :: r => blobW a ++ wireL r
def textsW (l : List ByteArray) : ByteArray := (⟨#[42]⟩ : ByteArray) ++ decT l.length ++ crlf ++ wireL l
theorem app_nil (a : ByteArray) : a ++ (⟨#[]⟩ : ByteArray) = a := by
  apply ByteArray.ext
  simp [ByteArray.data_append]
theorem nil_app (a : ByteArray) : (⟨#[]⟩ : ByteArray) ++ a = a := by
  apply ByteArray.ext
  simp [ByteArray.data_append]
theorem wireL_snoc (l : List ByteArray) (a : ByteArray) : wireL (l ++ [a]) = wireL l ++ blobW a := by
  induction l with
  | nil => simp only [List.nil_append, wireL, app_nil, nil_app]
  | cons b r ih => rw [List.cons_append, wireL, wireL, ih, ByteArray.append_assoc]
theorem blobW_size (s : ByteArray) (hs : s.size ≤ 1000000) : (blobW s).size ≤ s.size + 30 := by
  have := decT_size s.size (by omega)
  have h1 : (⟨#[36]⟩ : ByteArray).size = 1 := rfl
  have h2 : crlf.size = 2 := rfl
  unfold blobW
  simp only [ByteArray.size_append]
  omega
theorem wireL_size (l : List ByteArray) (hs : ∀ s ∈ l, s.size ≤ 1000) : (wireL l).size ≤ 1100 * l.length := by
  induction l with
  | nil => exact Nat.le_refl _
  | cons a r ih =>
    have h1 := blobW_size a (by have := hs a (by simp); omega)
    have h2 := hs a (by simp)
    have h3 := ih (fun s hm => hs s (by simp [hm]))
    simp only [wireL, ByteArray.size_append, List.length_cons]
    omega

end Go.Proofs.YtepeokoeempfgaaDoor
