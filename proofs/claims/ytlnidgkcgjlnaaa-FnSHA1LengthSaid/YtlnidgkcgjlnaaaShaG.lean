/-
  sha1.blockGeneric: whole blocks of bytes, taken up into the five words of a digest.
-/
import Derived.Test.YtlnidgkcgjlnaaaShaG1
import Derived.Test.YtlnidgkcgjlnaaaShaG2
import Derived.Test.YtlnidgkcgjlnaaaShaG3
import Derived.Test.YtlnidgkcgjlnaaaShaG4
import Derived.Test.YtlnidgkcgjlnaaaShaG5
import Derived.Test.YtlnidgkcgjlnaaaShaG6
namespace Go.Proofs.Ytlnidgkcgjlnaaa
open Go.RowKit
set_option linter.unusedVariables false
set_option linter.unusedSimpArgs false

set_option maxRecDepth 1000000 in
set_option maxHeartbeats 40000000 in
theorem blockG_any (w : World) (d : Nat) (s : W5) (x : Nat → Int) (nx len : Int) (A : Option Addr) (cap : Nat) (l : List UInt8) (hs : s.ok) (hD : Dig w d s x nx len) (hR : RBytes w A l) (hcap : l.length ≤ cap) (hm : cap ≤ maxLen) :
    Calls Try.prog 55 #[.pointer (some ⟨d, 0, none⟩), .slice A l.length cap] w fun e w' => e = .returned (.tuple #[]) ∧ Dig w' d (W5.blocksN nR (lb l) (l.length / 64) s) x nx len ∧ Chg [d] w w' := by
  have HS := hide hs
  have HD := hide hD
  have HR := hide hR
  have hdl := Blk.lt hD
  obtain ⟨d0, d1, d2, d3, d4⟩ := Dig.h hD
  generalize hL : l.length = L at hcap ⊢
  have HL := hide hL
  clear hs hD hR hL
  unfold maxLen at hm
  go_enter Try.func55, Try.ntmps55
  go_wp2_with fail
  have HW : Hid (KAt (w.alloc (.cells #[.int .u32 0, .int .u32 0, .int .u32 0, .int .u32 0, .int .u32 0, .int .u32 0, .int .u32 0, .int .u32 0, .int .u32 0, .int .u32 0, .int .u32 0, .int .u32 0, .int .u32 0, .int .u32 0, .int .u32 0, .int .u32 0] 101)) w.heap.size 101 .u32 16 fun _ => 0) := hide (Blk.new w 101 #[.int .u32 0, .int .u32 0, .int .u32 0, .int .u32 0, .int .u32 0, .int .u32 0, .int .u32 0, .int .u32 0, .int .u32 0, .int .u32 0, .int .u32 0, .int .u32 0, .int .u32 0, .int .u32 0, .int .u32 0, .int .u32 0])
  have HX : Hid (Ext w (w.alloc (.cells #[.int .u32 0, .int .u32 0, .int .u32 0, .int .u32 0, .int .u32 0, .int .u32 0, .int .u32 0, .int .u32 0, .int .u32 0, .int .u32 0, .int .u32 0, .int .u32 0, .int .u32 0, .int .u32 0, .int .u32 0, .int .u32 0] 101))) := hide ((Ext.refl w).alloc _)
  generalize w.alloc (.cells #[.int .u32 0, .int .u32 0, .int .u32 0, .int .u32 0, .int .u32 0, .int .u32 0, .int .u32 0, .int .u32 0, .int .u32 0, .int .u32 0, .int .u32 0, .int .u32 0, .int .u32 0, .int .u32 0, .int .u32 0, .int .u32 0] 101) = W0 at HW HX ⊢
  generalize hg : w.heap.size = g at HW hdl
  have HG := hide hg
  clear hg
  replace d0 := HX.out.cellOf d0
  replace d1 := HX.out.cellOf d1
  replace d2 := HX.out.cellOf d2
  replace d3 := HX.out.cellOf d3
  replace d4 := HX.out.cellOf d4
  go_quiet (fail)
  clear d0 d1 d2 d3 d4
  have HI : Hid (Ext w (W0.drewN nq) ∧ ∃ r, KAt (W0.drewN nq) g 101 .u32 16 r) := hide ⟨HX.out.drewN _, _, HW.out⟩
  generalize W0.drewN nq = W at HI ⊢
  clear HX HW
  go_wp2
  go_loopw [1, 5, 6, 7, 8, 9] (fun s1 s5 s6 s7 s8 s9 wr => ∃ (k : Nat) (v : W5) (Ak : Option Addr), 64 * k ≤ L ∧ s1 = .slice Ak (L - 64 * k) (cap - 64 * k) ∧ s5 = .int .u32 v.a ∧ s6 = .int .u32 v.b ∧ s7 = .int .u32 v.c ∧ s8 = .int .u32 v.d ∧ s9 = .int .u32 v.e ∧ Hid (v = W5.blocksN nR (lb l) k s) ∧ Hid (Ext w wr ∧ ∃ r, KAt wr g 101 .u32 16 r) ∧ Hid (RBytes w Ak (l.drop (64 * k)))) (fun s1 _ _ _ _ _ _ => (sliceLen s1))
  case atStart => exact ⟨0, s, A, by omega, rfl, rfl, rfl, rfl, rfl, rfl, hide rfl, HI, hide (by simpa using HR.out)⟩
  case round =>
    obtain ⟨k, v, Ak, hk, rfl, rfl, rfl, rfl, rfl, rfl, HV, HI, HK⟩ := hrel
    by_cases hlt : 64 ≤ L - 64 * k
    · obtain ⟨N, hN⟩ : ∃ N, N = L - 64 * k := ⟨_, rfl⟩
      obtain ⟨C, hC⟩ : ∃ C, C = cap - 64 * k := ⟨_, rfl⟩
      have hNC : N ≤ C := by omega
      have hCm : C ≤ 2 ^ 63 - 1 := by omega
      have HNC := hide (And.intro hN hC)
      have HK64 := hide hk
      rw [← hN] at hlt
      rw [← hN, ← hC]
      have hlen : (l.drop (64 * k)).length = N := by rw [List.length_drop, HL.out, hN]
      obtain ⟨ad, rfl, hb, hcell⟩ := slice_cells_g HK.out (by omega)
      rw [hlen] at hcell
      have HC : Hid (∀ wr, Ext w wr → ∀ j, j < N → wr.cell? (ad.add j) = some (.int .u8 (lb l (64 * k + j)))) := hide fun wr hx j hj => by rw [hx.cellOf (hcell j hj), lb_drop]
      have HVok : Hid v.ok := hide (by rw [HV.out]; exact W5.blocksN_ok _ _ HS.out _)
      obtain ⟨a0, b0, c0, d0, e0⟩ := v
      clear hcell hb hlen hN hC hk
      go_wp2
      refine ring1_any w _ g k N C ad l _ _ _ _ _ _ _ _ _ _ _ _ _ _ _ _ _ _ _ _ _ _ _ _ _ _ _ _ _ _ _ _ _ _ _ _ _ _ _ _ _ _ _ _ _ _ _ _ _ _ _ _ _ _ _ _ _ _ _ _ _ _ _ _ _ _ _ _ _ _ _ _ _ _ _ _ _ _ _ _ _ _ _ _ _ _ _ _ _ _ _ _ _ _ _ _ _ _ _ _ _ _ _ _ _ _ _ _ _ _ _ _ _ _ _ _ _ _ _ _ _ _ _ _ _ _ _ _ _ _ _ _ _ _ _ _ _ _ _ _ _ _ _ _ _ _ _ _ _ _ _ _ _ _ _ _ _ _ _ _ _ _ _ _ _ _ _ _ _ _ _ _ _ _ _ _ _ _ _ _ _ _ _ _ _ _ _ _ _ _ _ _ _ _ _ _ _ _ _ _ _ _ _ _ _ _ _ _ _ _ _ _ _ _ _ _ _ _ _ _ _ _ _ _ _ _ _ _ _ _ _ _ _ _ _ _ _ _ _ _ _ _ _ _ _ _ _ _ _ _ _ _ _ _ _ _ _ _ _ _ _ _ _ _ _ _ _ _ _ _ _ _ _ _ _ _ _ _ _ _ _ _ _ _ _ _ _ _ _ _ _ _ _ _ _ _ _ _ _ _ _ _ _ _ _ _ _ _ _ _ _ _ _ _ _ _ _ _ _ _ _ _ _ _ _ _ _ _ _ _ _ _ _ _ _ _ _ _ _ _ _ _ _ _ _ _ _ _ _ _ _ _ _ _ _ _ _ _ _ _ _ _ _ _ _ _ _ _ _ _ _ _ _ _ _ _ _ _ _ _ _ _ _ _ _ _ _ _ _ _ _ _ _ _ HG hlt hNC hCm HC HI (hide ?_)
      intro wr i r u11 u60 u61 u62 u63 u64 u65 u66 u67 u68 u69 u70 u71 u72 u73 u74 u75 u76 u77 u78 u79 u80 u81 u82 u83 u84 u85 u86 u87 u88 u89 u90 u91 u92 u93 u94 u95 u96 hi16 HI2
      clear HI
      obtain ⟨M, hM⟩ : ∃ M : Nat → Int, M = fun t => word4 (lb l) (64 * k + 4 * t) := ⟨_, rfl⟩
      have HI3 : Hid (Ext w wr ∧ KAt wr g 101 .u32 16 r ∧ Ring M r 16) := hide ⟨HI2.out.1, HI2.out.2.1, Ring.start fun j hj => by rw [hM]; exact HI2.out.2.2 j hj⟩
      have HM := hide hM
      clear HI2 hM hi16
      go_wp2
      refine ring2_any w _ g M ⟨a0, b0, c0, d0, e0⟩ r _ _ _ _ _ _ _ _ _ _ _ _ _ _ _ _ _ _ _ _ _ _ _ _ _ _ _ _ _ _ _ _ _ _ _ _ _ _ _ _ _ _ _ _ _ _ _ _ _ _ _ _ _ _ _ _ _ _ _ _ _ _ _ _ _ _ _ _ _ _ _ _ _ _ _ _ _ _ _ _ _ _ _ _ _ _ _ _ _ _ _ _ _ _ _ _ _ _ _ _ _ _ _ _ _ _ _ _ _ _ _ _ _ _ _ _ _ _ _ _ _ _ _ _ _ _ _ _ _ _ _ _ _ _ _ _ _ _ _ _ _ _ _ _ _ _ _ _ _ _ _ _ _ _ _ _ _ _ _ _ _ _ _ _ _ _ _ _ _ _ _ _ _ _ _ _ _ _ _ _ _ _ _ _ _ _ _ _ _ _ _ _ _ _ _ _ _ _ _ _ _ _ _ _ _ _ _ _ _ _ _ _ _ _ _ _ _ _ _ _ _ _ _ _ _ _ _ _ _ _ _ _ _ _ _ _ _ _ _ _ _ _ _ _ _ _ _ _ _ _ _ _ _ _ _ _ _ _ _ _ _ _ _ _ _ _ _ _ _ _ _ _ _ _ _ _ _ _ _ _ _ _ _ _ _ _ _ _ _ _ _ _ _ _ _ _ _ _ _ _ _ _ _ _ _ _ _ _ _ _ _ _ _ _ _ _ _ _ _ _ _ _ _ _ _ _ _ _ _ _ _ _ _ _ _ _ _ _ _ _ _ _ _ _ _ _ _ _ _ _ _ _ _ _ _ _ _ _ _ _ _ _ _ _ _ _ _ _ _ _ _ _ _ _ _ _ _ _ _ _ _ _ _ _ _ _ _ _ _ _ HVok HG HI3 (hide ?_)
      clear HI3
      intro wr i v r u18 u19 u102 u103 u104 u105 u106 u107 u108 u109 u110 u111 u112 u113 u114 u115 u116 u117 u118 u119 u120 u121 u122 u123 u124 u125 u126 u127 u128 u129 u130 u131 hi16 HV3 HI3
      go_wp2
      refine ring3_any w _ g M ⟨a0, b0, c0, d0, e0⟩ v i r _ _ _ _ _ _ _ _ _ _ _ _ _ _ _ _ _ _ _ _ _ _ _ _ _ _ _ _ _ _ _ _ _ _ _ _ _ _ _ _ _ _ _ _ _ _ _ _ _ _ _ _ _ _ _ _ _ _ _ _ _ _ _ _ _ _ _ _ _ _ _ _ _ _ _ _ _ _ _ _ _ _ _ _ _ _ _ _ _ _ _ _ _ _ _ _ _ _ _ _ _ _ _ _ _ _ _ _ _ _ _ _ _ _ _ _ _ _ _ _ _ _ _ _ _ _ _ _ _ _ _ _ _ _ _ _ _ _ _ _ _ _ _ _ _ _ _ _ _ _ _ _ _ _ _ _ _ _ _ _ _ _ _ _ _ _ _ _ _ _ _ _ _ _ _ _ _ _ _ _ _ _ _ _ _ _ _ _ _ _ _ _ _ _ _ _ _ _ _ _ _ _ _ _ _ _ _ _ _ _ _ _ _ _ _ _ _ _ _ _ _ _ _ _ _ _ _ _ _ _ _ _ _ _ _ _ _ _ _ _ _ _ _ _ _ _ _ _ _ _ _ _ _ _ _ _ _ _ _ _ _ _ _ _ _ _ _ _ _ _ _ _ _ _ _ _ _ _ _ _ _ _ _ _ _ _ _ _ _ _ _ _ _ _ _ _ _ _ _ _ _ _ _ _ _ _ _ _ _ _ _ _ _ _ _ _ _ _ _ _ _ _ _ _ _ _ _ _ _ _ _ _ _ _ _ _ _ _ _ _ _ _ _ _ _ _ _ _ _ _ _ _ _ _ _ _ _ _ _ _ _ _ _ _ _ _ _ _ _ _ _ _ _ _ _ _ _ _ _ _ _ _ _ _ _ _ _ _ _ _ HVok HG hi16 HV3 HI3 (hide ?_)
      clear HV3 HI3 hi16
      intro wr i v r u20 u21 u22 u132 u133 u134 u135 u136 u137 u138 u139 u140 u141 u142 u143 u144 u145 u146 u147 u148 u149 u150 u151 u152 u153 u154 u155 u156 u157 u158 u159 u160 u161 u162 u163 u164 u165 u166 u167 u168 u169 u170 u171 u172 u173 u174 u175 u176 u177 u178 u179 u180 u181 u182 u183 u184 u185 u186 u187 u188 hi16 HV3 HI3
      go_wp2
      refine ring4_any w _ g M ⟨a0, b0, c0, d0, e0⟩ v i r _ _ _ _ _ _ _ _ _ _ _ _ _ _ _ _ _ _ _ _ _ _ _ _ _ _ _ _ _ _ _ _ _ _ _ _ _ _ _ _ _ _ _ _ _ _ _ _ _ _ _ _ _ _ _ _ _ _ _ _ _ _ _ _ _ _ _ _ _ _ _ _ _ _ _ _ _ _ _ _ _ _ _ _ _ _ _ _ _ _ _ _ _ _ _ _ _ _ _ _ _ _ _ _ _ _ _ _ _ _ _ _ _ _ _ _ _ _ _ _ _ _ _ _ _ _ _ _ _ _ _ _ _ _ _ _ _ _ _ _ _ _ _ _ _ _ _ _ _ _ _ _ _ _ _ _ _ _ _ _ _ _ _ _ _ _ _ _ _ _ _ _ _ _ _ _ _ _ _ _ _ _ _ _ _ _ _ _ _ _ _ _ _ _ _ _ _ _ _ _ _ _ _ _ _ _ _ _ _ _ _ _ _ _ _ _ _ _ _ _ _ _ _ _ _ _ _ _ _ _ _ _ _ _ _ _ _ _ _ _ _ _ _ _ _ _ _ _ _ _ _ _ _ _ _ _ _ _ _ _ _ _ _ _ _ _ _ _ _ _ _ _ _ _ _ _ _ _ _ _ _ _ _ _ _ _ _ _ _ _ _ _ _ _ _ _ _ _ _ _ _ _ _ _ _ _ _ _ _ _ _ _ _ _ _ _ _ _ _ _ _ _ _ _ _ _ _ _ _ _ _ _ _ _ _ _ _ _ _ _ _ _ _ _ _ _ _ _ _ _ _ _ _ _ _ _ _ _ _ _ _ _ _ _ _ _ _ _ _ _ _ _ _ _ _ _ _ _ _ _ _ _ _ _ _ _ _ _ _ _ HVok HG hi16 HV3 HI3 (hide ?_)
      clear HV3 HI3 hi16
      intro wr i v r u23 u24 u25 u189 u190 u191 u192 u193 u194 u195 u196 u197 u198 u199 u200 u201 u202 u203 u204 u205 u206 u207 u208 u209 u210 u211 u212 u213 u214 u215 u216 u217 u218 u219 u220 u221 u222 u223 u224 u225 u226 u227 u228 u229 u230 u231 u232 u233 u234 u235 u236 u237 u238 u239 u240 u241 u242 hi16 HV3 HI3
      go_wp2
      refine ring5_any w _ g M ⟨a0, b0, c0, d0, e0⟩ v i r _ _ _ _ _ _ _ _ _ _ _ _ _ _ _ _ _ _ _ _ _ _ _ _ _ _ _ _ _ _ _ _ _ _ _ _ _ _ _ _ _ _ _ _ _ _ _ _ _ _ _ _ _ _ _ _ _ _ _ _ _ _ _ _ _ _ _ _ _ _ _ _ _ _ _ _ _ _ _ _ _ _ _ _ _ _ _ _ _ _ _ _ _ _ _ _ _ _ _ _ _ _ _ _ _ _ _ _ _ _ _ _ _ _ _ _ _ _ _ _ _ _ _ _ _ _ _ _ _ _ _ _ _ _ _ _ _ _ _ _ _ _ _ _ _ _ _ _ _ _ _ _ _ _ _ _ _ _ _ _ _ _ _ _ _ _ _ _ _ _ _ _ _ _ _ _ _ _ _ _ _ _ _ _ _ _ _ _ _ _ _ _ _ _ _ _ _ _ _ _ _ _ _ _ _ _ _ _ _ _ _ _ _ _ _ _ _ _ _ _ _ _ _ _ _ _ _ _ _ _ _ _ _ _ _ _ _ _ _ _ _ _ _ _ _ _ _ _ _ _ _ _ _ _ _ _ _ _ _ _ _ _ _ _ _ _ _ _ _ _ _ _ _ _ _ _ _ _ _ _ _ _ _ _ _ _ _ _ _ _ _ _ _ _ _ _ _ _ _ _ _ _ _ _ _ _ _ _ _ _ _ _ _ _ _ _ _ _ _ _ _ _ _ _ _ _ _ _ _ _ _ _ _ _ _ _ _ _ _ _ _ _ _ _ _ _ _ _ _ _ _ _ _ _ _ _ _ _ _ _ _ _ _ _ _ _ _ _ _ _ _ _ _ _ _ _ _ _ _ _ _ _ _ _ _ _ _ _ _ _ HVok HG hi16 HV3 HI3 (hide ?_)
      clear HV3 HI3 hi16
      intro wr i v r u26 u27 u28 u243 u244 u245 u246 u247 u248 u249 u250 u251 u252 u253 u254 u255 u256 u257 u258 u259 u260 u261 u262 u263 u264 u265 u266 u267 u268 u269 u270 u271 u272 u273 u274 u275 u276 u277 u278 u279 u280 u281 u282 u283 u284 u285 u286 u287 u288 u289 u290 u291 u292 u293 u294 u295 u296 u297 u298 u299 u300 hi16 HV3 HI3
      go_wp2
      refine ring6_any w _ g M ⟨a0, b0, c0, d0, e0⟩ v i r _ _ _ _ _ _ _ _ _ _ _ _ _ _ _ _ _ _ _ _ _ _ _ _ _ _ _ _ _ _ _ _ _ _ _ _ _ _ _ _ _ _ _ _ _ _ _ _ _ _ _ _ _ _ _ _ _ _ _ _ _ _ _ _ _ _ _ _ _ _ _ _ _ _ _ _ _ _ _ _ _ _ _ _ _ _ _ _ _ _ _ _ _ _ _ _ _ _ _ _ _ _ _ _ _ _ _ _ _ _ _ _ _ _ _ _ _ _ _ _ _ _ _ _ _ _ _ _ _ _ _ _ _ _ _ _ _ _ _ _ _ _ _ _ _ _ _ _ _ _ _ _ _ _ _ _ _ _ _ _ _ _ _ _ _ _ _ _ _ _ _ _ _ _ _ _ _ _ _ _ _ _ _ _ _ _ _ _ _ _ _ _ _ _ _ _ _ _ _ _ _ _ _ _ _ _ _ _ _ _ _ _ _ _ _ _ _ _ _ _ _ _ _ _ _ _ _ _ _ _ _ _ _ _ _ _ _ _ _ _ _ _ _ _ _ _ _ _ _ _ _ _ _ _ _ _ _ _ _ _ _ _ _ _ _ _ _ _ _ _ _ _ _ _ _ _ _ _ _ _ _ _ _ _ _ _ _ _ _ _ _ _ _ _ _ _ _ _ _ _ _ _ _ _ _ _ _ _ _ _ _ _ _ _ _ _ _ _ _ _ _ _ _ _ _ _ _ _ _ _ _ _ _ _ _ _ _ _ _ _ _ _ _ _ _ _ _ _ _ _ _ _ _ _ _ _ _ _ _ _ _ _ _ _ _ _ _ _ _ _ _ _ _ _ _ _ _ _ _ _ _ _ _ _ _ _ _ _ _ _ HVok HG hi16 HV3 HI3 (hide ?_)
      clear HV3 HI3 hi16
      intro wr i v r u29 u30 u31 u301 u302 u303 u304 u305 u306 u307 u308 u309 u310 u311 u312 u313 u314 u315 u316 u317 u318 u319 u320 u321 u322 u323 u324 u325 u326 u327 u328 u329 u330 u331 u332 u333 u334 u335 u336 u337 u338 u339 u340 u341 u342 u343 u344 u345 u346 u347 u348 u349 u350 u351 u352 u353 u354 hi16 HV3 HI3
      go_wp2
      go_roundw
      case rel =>
        refine ⟨k + 1, W5.add ⟨a0, b0, c0, d0, e0⟩ v, (if C = 64 then some ad else some ⟨ad.block, ad.off + 64, none⟩), by have := HNC.out; omega, ?_, rfl, rfl, rfl, rfl, rfl, hide ?_, hide ⟨HI3.out.1, _, HI3.out.2.1⟩, hide ?_⟩
        · have e1 : N - 64 = L - 64 * (k + 1) := by have := HNC.out; omega
          have e2 : C - 64 = cap - 64 * (k + 1) := by have := HNC.out; omega
          rw [e1, e2]
        · rw [W5.blocksN_succ, ← HV.out]
          unfold W5.blockN
          rw [HV3.out, HM.out, hi16]
          rfl
        · have h := HK.out.cut (k := 64) (cap := C) (by rw [List.length_drop, HL.out]; have := HNC.out; omega) (by rw [List.length_drop, HL.out]; have := HNC.out; omega)
          rw [List.drop_drop] at h
          exact h
      case measure => simp [sliceLen]; omega
    · have hk2 : l.length / 64 = k := by have := HL.out; omega
      have hlt' : ¬ (64 : Int) ≤ ((L - 64 * k : Nat) : Int) := by omega
      have HE : Hid (v = W5.blocksN nR (lb l) (L / 64) s) := hide (by rw [HV.out, show L / 64 = k by omega])
      have HVok : Hid v.ok := hide (by rw [HV.out]; exact W5.blocksN_ok _ _ HS.out _)
      obtain ⟨a0, b0, c0, d0, e0⟩ := v
      have HD2 : Hid (Dig wr d s x nx len) := hide (HD.out.ext HI.out.1)
      obtain ⟨u0, u1, u2, u3, u4⟩ := HD2.out.h
      have z0 := Blk.frozen HD2.out 0
      have z1 := Blk.frozen HD2.out 1
      have z2 := Blk.frozen HD2.out 2
      have z3 := Blk.frozen HD2.out 3
      have z4 := Blk.frozen HD2.out 4
      clear hk2
      go_wp2
      go_region_with (fail)
      go_wp2
      refine bodyPost_end (results_none rfl _ _ _) rfl ⟨rfl, ?_, ?_⟩
      · rw [← HE.out]
        exact Dig.set_h (w := wr) HD2.out a0 b0 c0 d0 e0
      · exact (((((Chg.of_ext HI.out.1 [d]).drew.setCell (by simp) _).setCell (by simp) _).setCell (by simp) _).setCell (by simp) _).setCell (by simp) _
end Go.Proofs.Ytlnidgkcgjlnaaa
