/-
  spec.BlobWire, spec.Texts.
-/
import Derived.Test.YtepeokoeempfgaaGreatDoorApp
import Derived.Deep.RegionWith
namespace Go.Proofs.YtepeokoeempfgaaGreatDoor
open Go.RowKit
set_option linter.unusedVariables false
set_option linter.unusedSimpArgs false

def crlf : ByteArray := ⟨#[13, 10]⟩
def decT (n : Nat) : ByteArray := ⟨(Lib.decDigits n).toArray⟩
def blobW (s : ByteArray) : ByteArray := (⟨#[36]⟩ : ByteArray) ++ decT s.size ++ crlf ++ s ++ crlf

theorem decT_size (n : Nat) (h : n < 18446744073709551616) : (decT n).size ≤ 20 := by
  have e : (decT n).size = (Lib.decDigits n).length := by simp [decT, ByteArray.size]
  rw [e, Lib.decDigits_length]
  exact Lib.nDigits_le20 n h
theorem wrap_small (n : Int) (h1 : 0 ≤ n) (h2 : n ≤ 1000000) : IntKind.u64.wrap n = n := by
  simp [IntKind.wrap, IntKind.bits, IntKind.signed]
  omega
set_option maxRecDepth 100000 in
set_option maxHeartbeats 1000000 in
theorem blobWire_any (s : ByteArray) (hs : s.size ≤ 1000000) (w : World) :
    Calls Tryz.prog 15 #[.int .u8 36, .string s] w fun e w' => e = .returned (.string (blobW s)) ∧ Ext w w' := by
  have hw : IntKind.u64.wrap (s.size : Int) = (s.size : Int) := wrap_small _ (by omega) (by omega)
  have DG : Hid (∀ w, Calls Tryz.prog 14 #[.int .u64 (IntKind.u64.wrap (s.size : Int))] w fun e w' => e = .returned (.string (decT s.size)) ∧ Ext w w') := hide fun w => by rw [hw]; exact digits_any s.size (by omega) w
  clear hw
  have hD := decT_size s.size (by omega)
  unfold blobW crlf
  generalize decT s.size = D at DG hD ⊢
  have p1 : ((⟨#[36]⟩ : ByteArray) ++ D).size ≤ 1000 := by simp [ByteArray.size_append]; have : (⟨#[36]⟩ : ByteArray).size = 1 := rfl; omega
  have hcv : ∀ wx (b : Nat), wx.cell? ⟨b, 0, none⟩ = some (.int .u8 36) → (convert 29 9 (.slice (some ⟨b, 0, none⟩) 1 1)).run Tryz.prog wx = .ok (.string ⟨#[36]⟩) wx := fun wx b hc =>
    run_string_n wx _ _ _ Tryz.underlying29 Tryz.underlying5 Tryz.underlying9 (l := [36]) 1 1 rfl ⟨by simp [bs], fun _ => ⟨_, rfl, by
      rcases Nat.lt_or_ge b wx.heap.size with h | h
      · exact h
      · simp [World.cell?, Array.getElem?_eq_none h] at hc, fun j u hu => by
      have hj : j = 0 := by
        have := (List.getElem?_eq_some_iff.1 hu).1
        simp [bs] at this
        omega
      subst hj
      simp [bs] at hu
      have ha : (⟨b, 0, none⟩ : Addr).add 0 = ⟨b, 0, none⟩ := by simp [Addr.add_lit]
      rw [ha, hc, ← hu]⟩⟩
  have hsz : (s.size : Int) ≤ 1000000 := by omega
  have hsz0 : (0 : Int) ≤ (s.size : Int) := by omega
  go_enter Tryz.func15, Tryz.ntmps15
  go_wp2
  go_region_with (first | (go_at_call 14; refine (DG.out _).mono ?_; rintro e w1 ⟨rfl, hx⟩; have HX := hide hx; first | (have hcq := fun h => hx.cellOf (p := ⟨w.heap.size, 0, none⟩) (v := .int .u8 36) h; simp [go_sem] at hcq; have hcx := hcv _ _ hcq) | skip))
  all_goals
    go_wp2
    go_ret
  · exact ⟨rfl, (((Ext.refl w).alloc _).drew).trans HX.out⟩
  · exact ⟨rfl, (((Ext.refl w).alloc _).drew).trans HX.out⟩
  · exact ⟨rfl, (((Ext.refl w).drew).trans HX.out).alloc _⟩

/-- What so many texts are on the wire. -/
def wireL : List ByteArray → ByteArray
  | [] => ⟨#[]⟩
  | a :: r => blobW a ++ wireL r
def textsW (l : List ByteArray) : ByteArray := (⟨#[42]⟩ : ByteArray) ++ decT l.length ++ crlf ++ wireL l
theorem app_nil (a : ByteArray) : a ++ (⟨#[]⟩ : ByteArray) = a := by
  apply ByteArray.ext
  simp [ByteArray.data_append]
theorem nil_app (a : ByteArray) : (⟨#[]⟩ : ByteArray) ++ a = a := by
  apply ByteArray.ext
  simp [ByteArray.data_append]
theorem wireL_snoc (l : List ByteArray) (a : ByteArray) : wireL (l ++ [a]) = wireL l ++ blobW a := by
  induction l with
  | nil => simp only [List.nil_append, wireL, app_nil, nil_app]
  | cons b r ih => rw [List.cons_append, wireL, wireL, ih, ByteArray.append_assoc]
theorem blobW_size (s : ByteArray) (hs : s.size ≤ 1000000) : (blobW s).size ≤ s.size + 30 := by
  have := decT_size s.size (by omega)
  have h1 : (⟨#[36]⟩ : ByteArray).size = 1 := rfl
  have h2 : crlf.size = 2 := rfl
  unfold blobW
  simp only [ByteArray.size_append]
  omega
theorem wireL_size (l : List ByteArray) (hs : ∀ s ∈ l, s.size ≤ 1000) : (wireL l).size ≤ 1100 * l.length := by
  induction l with
  | nil => exact Nat.le_refl _
  | cons a r ih =>
    have h1 := blobW_size a (by have := hs a (by simp); omega)
    have h2 := hs a (by simp)
    have h3 := ih (fun s hm => hs s (by simp [hm]))
    simp only [wireL, ByteArray.size_append, List.length_cons]
    omega

set_option maxRecDepth 100000 in
set_option maxHeartbeats 1000000 in
theorem texts_any (A : Option Addr) (cap : Nat) (l : List ByteArray) (n : Nat) (w : World) (hn : l.length = n) (hR : RS w A l) (hl : n ≤ 1000) (hs : ∀ s ∈ l, s.size ≤ 1000) :
    Calls Tryz.prog 7 #[.slice A n cap] w fun e w' => e = .returned (.string (textsW l)) ∧ Ext w w' := by
  have hw : IntKind.u64.wrap (n : Int) = (n : Int) := wrap_small _ (by omega) (by omega)
  have DG : Hid (∀ w, Calls Tryz.prog 14 #[.int .u64 n] w fun e w' => e = .returned (.string (decT n)) ∧ Ext w w') := hide fun w => digits_any n (by omega) w
  have BW : Hid (∀ s ∈ l, ∀ w, Calls Tryz.prog 15 #[.int .u8 36, .string s] w fun e w' => e = .returned (.string (blobW s)) ∧ Ext w w') := hide fun s hm w => blobWire_any s (by have := hs s hm; omega) w
  have HR := hide hR
  have HN := hide hn
  have hD := decT_size n (by omega)
  have hln : (n : Int) ≤ 1000 := by omega
  have HS : Hid (∀ k, (wireL (l.take k)).size ≤ 1100 * 1000) := hide fun k => by
    have h1 := wireL_size (l.take k) (fun s hm => hs s (List.mem_of_mem_take hm))
    have : (l.take k).length ≤ 1000 := by rw [List.length_take]; omega
    omega
  have HT : textsW l = (⟨#[42]⟩ : ByteArray) ++ decT n ++ crlf ++ wireL l := by unfold textsW; rw [hn]
  have HT2 := hide HT
  clear hR hn hs HT
  unfold crlf at HT2
  generalize decT n = D at DG hD HT2
  have hH : ((⟨#[42]⟩ : ByteArray) ++ D ++ ⟨#[13, 10]⟩).size ≤ 1000 := by
    have h1 : (⟨#[42]⟩ : ByteArray).size = 1 := rfl
    have h2 : (⟨#[13, 10]⟩ : ByteArray).size = 2 := rfl
    simp only [ByteArray.size_append]
    omega
  have hH1 : ((⟨#[42]⟩ : ByteArray) ++ D).size ≤ 1000 := by
    have h1 : (⟨#[42]⟩ : ByteArray).size = 1 := rfl
    simp only [ByteArray.size_append]
    omega
  go_enter Tryz.func7, Tryz.ntmps7
  go_wp2_with fail
  refine (DG.out _).mono ?_
  rintro e w1 ⟨rfl, hx⟩
  have HX1 := hide hx
  clear hx DG
  go_wp2
  go_loopw [3, 5, 14] (fun s3 s5 s14 wr => ∃ (k : Nat), k ≤ n ∧ s14 = .int .i64 k ∧ s3 = .string ((⟨#[42]⟩ : ByteArray) ++ D ++ ⟨#[13, 10]⟩ ++ wireL (l.take k)) ∧ Hid (Ext w wr)) (fun _ _ s14 _ => n - (intOf s14).toNat)
  case atStart => exact ⟨0, by omega, rfl, by rw [List.take_zero, wireL, app_nil], hide HX1.out⟩
  case round =>
    obtain ⟨k, hk, rfl, rfl, HX⟩ := hrel
    by_cases hlt : k < n
    · have hkl : k < l.length := by rw [HN.out]; exact hlt
      obtain ⟨ad, rfl, hab, hcell⟩ := HR.out.addr (by omega)
      have hc0 : wr.cell? (ad.add k) = some (.string l[k]) := by
        rw [HX.out.cell (p := ad.add k) (by rw [block_of_add]; exact hab)]
        exact hcell k hkl
      have B1 := hide (BW.out l[k] (List.getElem_mem hkl))
      have E1 : Hid (wireL (l.take (k + 1)) = wireL (l.take k) ++ blobW l[k]) := hide (by rw [List.take_succ_eq_append_getElem hkl, wireL_snoc])
      have hsz := HS.out k
      have hsz2 := HS.out (k + 1)
      rw [E1.out, ByteArray.size_append] at hsz2
      generalize l[k] = s at hc0 B1 E1 hsz2
      generalize blobW s = b at B1 E1 hsz2
      generalize wireL (l.take k) = p at E1 hsz hsz2 ⊢
      clear hcell hab hkl
      go_wp2_with fail
      refine (B1.out _).mono ?_
      rintro e w2 ⟨rfl, hx⟩
      have HX2 := hide (HX.out.trans hx)
      clear hx HX
      go_wp2
      go_roundw
      case rel => exact ⟨k + 1, by omega, by go_num, by rw [E1.out, ← ByteArray.append_assoc], HX2⟩
      case measure => simp [intOf]; omega
    · obtain rfl : k = n := by omega
      have E1 : Hid (l.take k = l) := hide (List.take_of_length_le (by rw [HN.out]; exact Nat.le_refl _))
      go_wp2
      go_ret
      refine ⟨?_, HX.out⟩
      rw [HT2.out, ← E1.out]
      simp only [List.take_take, Nat.min_self]
      rfl
end Go.Proofs.YtepeokoeempfgaaGreatDoor
