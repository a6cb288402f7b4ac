/-
  sha1.blockGeneric: the sixteen words of a block.
-/
import Derived.Test.YtlnidgkcgjlnaaaShaG0
namespace Go.Proofs.Ytlnidgkcgjlnaaa
open Go.RowKit
set_option linter.unusedVariables false
set_option linter.unusedSimpArgs false

set_option maxRecDepth 1000000 in
set_option maxHeartbeats 40000000 in
theorem ring1_any {Q0 : Exit → Act → World → Prop} (w wr : World) (g k N C : Nat) (ad : Addr) (l : List UInt8) (y0 y2 y3 y5 y6 y7 y8 y9 y11 y12 y13 y14 y15 y16 y17 y18 y19 y20 y21 y22 y23 y24 y25 y26 y27 y28 y29 y30 y31 y32 y33 y34 y35 y36 y37 y38 y39 y40 y41 y42 y43 y44 y45 y46 y47 y48 y49 y50 y51 y52 y53 y54 y55 y56 y57 y58 y59 y60 y61 y62 y63 y64 y65 y66 y67 y68 y69 y70 y71 y72 y73 y74 y75 y76 y77 y78 y79 y80 y81 y82 y83 y84 y85 y86 y87 y88 y89 y90 y91 y92 y93 y94 y95 y96 y97 y98 y99 y100 y101 y102 y103 y104 y105 y106 y107 y108 y109 y110 y111 y112 y113 y114 y115 y116 y117 y118 y119 y120 y121 y122 y123 y124 y125 y126 y127 y128 y129 y130 y131 y132 y133 y134 y135 y136 y137 y138 y139 y140 y141 y142 y143 y144 y145 y146 y147 y148 y149 y150 y151 y152 y153 y154 y155 y156 y157 y158 y159 y160 y161 y162 y163 y164 y165 y166 y167 y168 y169 y170 y171 y172 y173 y174 y175 y176 y177 y178 y179 y180 y181 y182 y183 y184 y185 y186 y187 y188 y189 y190 y191 y192 y193 y194 y195 y196 y197 y198 y199 y200 y201 y202 y203 y204 y205 y206 y207 y208 y209 y210 y211 y212 y213 y214 y215 y216 y217 y218 y219 y220 y221 y222 y223 y224 y225 y226 y227 y228 y229 y230 y231 y232 y233 y234 y235 y236 y237 y238 y239 y240 y241 y242 y243 y244 y245 y246 y247 y248 y249 y250 y251 y252 y253 y254 y255 y256 y257 y258 y259 y260 y261 y262 y263 y264 y265 y266 y267 y268 y269 y270 y271 y272 y273 y274 y275 y276 y277 y278 y279 y280 y281 y282 y283 y284 y285 y286 y287 y288 y289 y290 y291 y292 y293 y294 y295 y296 y297 y298 y299 y300 y301 y302 y303 y304 y305 y306 y307 y308 y309 y310 y311 y312 y313 y314 y315 y316 y317 y318 y319 y320 y321 y322 y323 y324 y325 y326 y327 y328 y329 y330 y331 y332 y333 y334 y335 y336 y337 y338 y339 y340 y341 y342 y343 y344 y345 y346 y347 y348 y349 y350 y351 y352 y353 y354 y355 y356 y357 y358 y359 y360 y361 y362 y363 y364 y365 y366 y367 y368 y369 y370 y371 y372 y373 y374 y375 y376 y377 y378 y379 y380 y381 y382 y383 y384 y385 y386 y387 y388 y389 y390 y391 y392 y393 y394 y395 y396 : Value) (HG : Hid (w.heap.size = g)) (hlt : 64 ≤ N) (hNC : N ≤ C) (hCm : C ≤ 2 ^ 63 - 1) (HC : Hid (∀ wr, Ext w wr → ∀ j, j < N → wr.cell? (ad.add j) = some (.int .u8 (lb l (64 * k + j))))) (HI : Hid (Ext w wr ∧ ∃ r, KAt wr g 101 .u32 16 r))
    (HX : Hid (∀ (wr : World) (i : Nat) (r : Nat → Int) (u11 u60 u61 u62 u63 u64 u65 u66 u67 u68 u69 u70 u71 u72 u73 u74 u75 u76 u77 u78 u79 u80 u81 u82 u83 u84 u85 u86 u87 u88 u89 u90 u91 u92 u93 u94 u95 u96 : Value), i = 16 → Hid (Ext w wr ∧ KAt wr g 101 .u32 16 r ∧ ∀ j, j < 16 → r j = word4 (lb l) (64 * k + 4 * j)) → Q0 (.exit 2) ⟨List.toArray (y0 :: (.slice (some ad) N C) :: y2 :: y3 :: (.pointer (some ⟨g, 0, none⟩)) :: y5 :: y6 :: y7 :: y8 :: y9 :: (.int .i64 i) :: u11 :: y12 :: y13 :: y14 :: y15 :: y16 :: y17 :: y18 :: y19 :: y20 :: y21 :: y22 :: y23 :: y24 :: y25 :: y26 :: y27 :: y28 :: y29 :: y30 :: y31 :: y32 :: y33 :: y34 :: y35 :: y36 :: y37 :: y38 :: y39 :: y40 :: y41 :: y42 :: y43 :: y44 :: y45 :: y46 :: y47 :: y48 :: y49 :: y50 :: y51 :: y52 :: y53 :: y54 :: y55 :: y56 :: y57 :: y58 :: y59 :: u60 :: u61 :: u62 :: u63 :: u64 :: u65 :: u66 :: u67 :: u68 :: u69 :: u70 :: u71 :: u72 :: u73 :: u74 :: u75 :: u76 :: u77 :: u78 :: u79 :: u80 :: u81 :: u82 :: u83 :: u84 :: u85 :: u86 :: u87 :: u88 :: u89 :: u90 :: u91 :: u92 :: u93 :: u94 :: u95 :: u96 :: y97 :: y98 :: y99 :: y100 :: y101 :: y102 :: y103 :: y104 :: y105 :: y106 :: y107 :: y108 :: y109 :: y110 :: y111 :: y112 :: y113 :: y114 :: y115 :: y116 :: y117 :: y118 :: y119 :: y120 :: y121 :: y122 :: y123 :: y124 :: y125 :: y126 :: y127 :: y128 :: y129 :: y130 :: y131 :: y132 :: y133 :: y134 :: y135 :: y136 :: y137 :: y138 :: y139 :: y140 :: y141 :: y142 :: y143 :: y144 :: y145 :: y146 :: y147 :: y148 :: y149 :: y150 :: y151 :: y152 :: y153 :: y154 :: y155 :: y156 :: y157 :: y158 :: y159 :: y160 :: y161 :: y162 :: y163 :: y164 :: y165 :: y166 :: y167 :: y168 :: y169 :: y170 :: y171 :: y172 :: y173 :: y174 :: y175 :: y176 :: y177 :: y178 :: y179 :: y180 :: y181 :: y182 :: y183 :: y184 :: y185 :: y186 :: y187 :: y188 :: y189 :: y190 :: y191 :: y192 :: y193 :: y194 :: y195 :: y196 :: y197 :: y198 :: y199 :: y200 :: y201 :: y202 :: y203 :: y204 :: y205 :: y206 :: y207 :: y208 :: y209 :: y210 :: y211 :: y212 :: y213 :: y214 :: y215 :: y216 :: y217 :: y218 :: y219 :: y220 :: y221 :: y222 :: y223 :: y224 :: y225 :: y226 :: y227 :: y228 :: y229 :: y230 :: y231 :: y232 :: y233 :: y234 :: y235 :: y236 :: y237 :: y238 :: y239 :: y240 :: y241 :: y242 :: y243 :: y244 :: y245 :: y246 :: y247 :: y248 :: y249 :: y250 :: y251 :: y252 :: y253 :: y254 :: y255 :: y256 :: y257 :: y258 :: y259 :: y260 :: y261 :: y262 :: y263 :: y264 :: y265 :: y266 :: y267 :: y268 :: y269 :: y270 :: y271 :: y272 :: y273 :: y274 :: y275 :: y276 :: y277 :: y278 :: y279 :: y280 :: y281 :: y282 :: y283 :: y284 :: y285 :: y286 :: y287 :: y288 :: y289 :: y290 :: y291 :: y292 :: y293 :: y294 :: y295 :: y296 :: y297 :: y298 :: y299 :: y300 :: y301 :: y302 :: y303 :: y304 :: y305 :: y306 :: y307 :: y308 :: y309 :: y310 :: y311 :: y312 :: y313 :: y314 :: y315 :: y316 :: y317 :: y318 :: y319 :: y320 :: y321 :: y322 :: y323 :: y324 :: y325 :: y326 :: y327 :: y328 :: y329 :: y330 :: y331 :: y332 :: y333 :: y334 :: y335 :: y336 :: y337 :: y338 :: y339 :: y340 :: y341 :: y342 :: y343 :: y344 :: y345 :: y346 :: y347 :: y348 :: y349 :: y350 :: y351 :: y352 :: y353 :: y354 :: y355 :: y356 :: y357 :: y358 :: y359 :: y360 :: y361 :: y362 :: y363 :: y364 :: y365 :: y366 :: y367 :: y368 :: y369 :: y370 :: y371 :: y372 :: y373 :: y374 :: y375 :: y376 :: y377 :: y378 :: y379 :: y380 :: y381 :: y382 :: y383 :: y384 :: y385 :: y386 :: y387 :: y388 :: y389 :: y390 :: y391 :: y392 :: y393 :: y394 :: y395 :: y396 :: []), []⟩ wr)) :
    Code.wp Try.prog (Code.loop (lp 1)) Q0 ⟨List.toArray (y0 :: (.slice (some ad) N C) :: y2 :: y3 :: (.pointer (some ⟨g, 0, none⟩)) :: y5 :: y6 :: y7 :: y8 :: y9 :: (.int .i64 0) :: y11 :: y12 :: y13 :: y14 :: y15 :: y16 :: y17 :: y18 :: y19 :: y20 :: y21 :: y22 :: y23 :: y24 :: y25 :: y26 :: y27 :: y28 :: y29 :: y30 :: y31 :: y32 :: y33 :: y34 :: y35 :: y36 :: y37 :: y38 :: y39 :: y40 :: y41 :: y42 :: y43 :: y44 :: y45 :: y46 :: y47 :: y48 :: y49 :: y50 :: y51 :: y52 :: y53 :: y54 :: y55 :: y56 :: y57 :: y58 :: y59 :: y60 :: y61 :: y62 :: y63 :: y64 :: y65 :: y66 :: y67 :: y68 :: y69 :: y70 :: y71 :: y72 :: y73 :: y74 :: y75 :: y76 :: y77 :: y78 :: y79 :: y80 :: y81 :: y82 :: y83 :: y84 :: y85 :: y86 :: y87 :: y88 :: y89 :: y90 :: y91 :: y92 :: y93 :: y94 :: y95 :: y96 :: y97 :: y98 :: y99 :: y100 :: y101 :: y102 :: y103 :: y104 :: y105 :: y106 :: y107 :: y108 :: y109 :: y110 :: y111 :: y112 :: y113 :: y114 :: y115 :: y116 :: y117 :: y118 :: y119 :: y120 :: y121 :: y122 :: y123 :: y124 :: y125 :: y126 :: y127 :: y128 :: y129 :: y130 :: y131 :: y132 :: y133 :: y134 :: y135 :: y136 :: y137 :: y138 :: y139 :: y140 :: y141 :: y142 :: y143 :: y144 :: y145 :: y146 :: y147 :: y148 :: y149 :: y150 :: y151 :: y152 :: y153 :: y154 :: y155 :: y156 :: y157 :: y158 :: y159 :: y160 :: y161 :: y162 :: y163 :: y164 :: y165 :: y166 :: y167 :: y168 :: y169 :: y170 :: y171 :: y172 :: y173 :: y174 :: y175 :: y176 :: y177 :: y178 :: y179 :: y180 :: y181 :: y182 :: y183 :: y184 :: y185 :: y186 :: y187 :: y188 :: y189 :: y190 :: y191 :: y192 :: y193 :: y194 :: y195 :: y196 :: y197 :: y198 :: y199 :: y200 :: y201 :: y202 :: y203 :: y204 :: y205 :: y206 :: y207 :: y208 :: y209 :: y210 :: y211 :: y212 :: y213 :: y214 :: y215 :: y216 :: y217 :: y218 :: y219 :: y220 :: y221 :: y222 :: y223 :: y224 :: y225 :: y226 :: y227 :: y228 :: y229 :: y230 :: y231 :: y232 :: y233 :: y234 :: y235 :: y236 :: y237 :: y238 :: y239 :: y240 :: y241 :: y242 :: y243 :: y244 :: y245 :: y246 :: y247 :: y248 :: y249 :: y250 :: y251 :: y252 :: y253 :: y254 :: y255 :: y256 :: y257 :: y258 :: y259 :: y260 :: y261 :: y262 :: y263 :: y264 :: y265 :: y266 :: y267 :: y268 :: y269 :: y270 :: y271 :: y272 :: y273 :: y274 :: y275 :: y276 :: y277 :: y278 :: y279 :: y280 :: y281 :: y282 :: y283 :: y284 :: y285 :: y286 :: y287 :: y288 :: y289 :: y290 :: y291 :: y292 :: y293 :: y294 :: y295 :: y296 :: y297 :: y298 :: y299 :: y300 :: y301 :: y302 :: y303 :: y304 :: y305 :: y306 :: y307 :: y308 :: y309 :: y310 :: y311 :: y312 :: y313 :: y314 :: y315 :: y316 :: y317 :: y318 :: y319 :: y320 :: y321 :: y322 :: y323 :: y324 :: y325 :: y326 :: y327 :: y328 :: y329 :: y330 :: y331 :: y332 :: y333 :: y334 :: y335 :: y336 :: y337 :: y338 :: y339 :: y340 :: y341 :: y342 :: y343 :: y344 :: y345 :: y346 :: y347 :: y348 :: y349 :: y350 :: y351 :: y352 :: y353 :: y354 :: y355 :: y356 :: y357 :: y358 :: y359 :: y360 :: y361 :: y362 :: y363 :: y364 :: y365 :: y366 :: y367 :: y368 :: y369 :: y370 :: y371 :: y372 :: y373 :: y374 :: y375 :: y376 :: y377 :: y378 :: y379 :: y380 :: y381 :: y382 :: y383 :: y384 :: y385 :: y386 :: y387 :: y388 :: y389 :: y390 :: y391 :: y392 :: y393 :: y394 :: y395 :: y396 :: []), []⟩ wr := by
  conv => arg 2; arg 1; whnf
  go_loopw [10] (fun s10 wr => ∃ (i : Nat) (r : Nat → Int), i ≤ 16 ∧ s10 = .int .i64 i ∧ Hid (Ext w wr ∧ KAt wr g 101 .u32 16 r ∧ ∀ j, j < i → r j = word4 (lb l) (64 * k + 4 * j))) (fun s10 _ => 16 - (intOf s10).toNat)
  case atStart =>
    obtain ⟨hx, r, hr⟩ := HI.out
    exact ⟨0, r, by omega, rfl, hide ⟨hx, hr, fun j hj => absurd hj (by omega)⟩⟩
  case round =>
    clear HI
    obtain ⟨i, r, hi, rfl, HI⟩ := hrel
    by_cases hlt2 : i < 16
    · have q0 := HC.out wr HI.out.1 (i * 4) (by omega)
      have q1 := HC.out wr HI.out.1 (i * 4 + 1) (by omega)
      rw [add_succ] at q1
      have q2 := HC.out wr HI.out.1 (i * 4 + 2) (by omega)
      rw [add_succ] at q2
      have q3 := HC.out wr HI.out.1 (i * 4 + 3) (by omega)
      rw [add_succ] at q3
      have ci := HI.out.2.1.cell hlt2
      have fi := HI.out.2.1.frozen i
      obtain ⟨b0, hb0⟩ : ∃ b0, b0 = lb l (64 * k + i * 4) := ⟨_, rfl⟩
      obtain ⟨b1, hb1⟩ : ∃ b1, b1 = lb l (64 * k + (i * 4 + 1)) := ⟨_, rfl⟩
      obtain ⟨b2, hb2⟩ : ∃ b2, b2 = lb l (64 * k + (i * 4 + 2)) := ⟨_, rfl⟩
      obtain ⟨b3, hb3⟩ : ∃ b3, b3 = lb l (64 * k + (i * 4 + 3)) := ⟨_, rfl⟩
      rw [← hb0] at q0
      rw [← hb1] at q1
      rw [← hb2] at q2
      rw [← hb3] at q3
      obtain ⟨l0, u0⟩ : 0 ≤ b0 ∧ b0 ≤ 255 := by rw [hb0]; exact lb_byte _ _
      obtain ⟨l1, u1⟩ : 0 ≤ b1 ∧ b1 ≤ 255 := by rw [hb1]; exact lb_byte _ _
      obtain ⟨l2, u2⟩ : 0 ≤ b2 ∧ b2 ≤ 255 := by rw [hb2]; exact lb_byte _ _
      obtain ⟨l3, u3⟩ : 0 ≤ b3 ∧ b3 ≤ 255 := by rw [hb3]; exact lb_byte _ _
      have HB := hide (And.intro hb0 (And.intro hb1 (And.intro hb2 hb3)))
      clear hb0 hb1 hb2 hb3
      have n1 : (i : Int) * 4 + 3 < (N : Int) := by omega
      have n2 : (i : Int) * 4 + 2 < (N : Int) := by omega
      have n3 : (i : Int) * 4 + 1 < (N : Int) := by omega
      have n4 : (i : Int) * 4 < (N : Int) := by omega
      go_wp2
      have p1 : IntKind.i64.wrap ((i : Int) * 4 + 1) = (i : Int) * 4 + 1 := IntWalk.i64_in _ (by omega)
      have p2 : IntKind.i64.wrap ((i : Int) * 4 + 2) = (i : Int) * 4 + 2 := IntWalk.i64_in _ (by omega)
      have p3 : IntKind.i64.wrap ((i : Int) * 4 + 3) = (i : Int) * 4 + 3 := IntWalk.i64_in _ (by omega)
      have g1 : 0 ≤ (i : Int) * 4 + 1 := by omega
      have g2 : 0 ≤ (i : Int) * 4 + 2 := by omega
      have g3 : 0 ≤ (i : Int) * 4 + 3 := by omega
      have t0 : ((i : Int) * 4).toNat = i * 4 := by omega
      have t1 : ((i : Int) * 4 + 1).toNat = i * 4 + 1 := by omega
      have t2 : ((i : Int) * 4 + 2).toNat = i * 4 + 2 := by omega
      have t3 : ((i : Int) * 4 + 3).toNat = i * 4 + 3 := by omega
      refine wp_region_quiet_tail 31 (by kernel_rfl) (by kernel_rfl) ?_
      simp only [List.take_succ_cons, List.take_zero, List.drop_succ_cons, List.drop_zero]
      repeat go_big_quiet_step (fail)
      refine wpQuiet_nil ?_
      clear p1 p2 p3 g1 g2 g3 t0 t1 t2 t3
      go_wp2
      go_roundw
      case rel =>
        refine ⟨i + 1, updI r i (word4 (lb l) (64 * k + 4 * i)), by omega, by go_num, hide ⟨(HI.out.1.setCell (by have := HG.out; show w.heap.size ≤ g; omega) _).drew, ?_, fun j hj => ?_⟩⟩
        · have e : bits .or .u32 (bits .or .u32 (bits .or .u32 (b0 * 16777216) (b1 * 65536)) (b2 * 256)) b3 = word4 (lb l) (64 * k + 4 * i) := by
            rw [HB.out.1, HB.out.2.1, HB.out.2.2.1, HB.out.2.2.2, Nat.mul_comm i 4]
            rfl
          rw [e]
          exact HI.out.2.1.put i _
        · by_cases e : j = i
          · subst e; exact updI_at _ _ _
          · rw [updI_ne _ _ e]; exact HI.out.2.2 j (by omega)
      case measure => simp [intOf]; omega
    · have hi16 : i = 16 := by omega
      have HI2 : Hid (Ext w wr ∧ KAt wr g 101 .u32 16 r ∧ ∀ j, j < 16 → r j = word4 (lb l) (64 * k + 4 * j)) := hide ⟨HI.out.1, HI.out.2.1, fun j hj => HI.out.2.2 j (by omega)⟩
      clear HI
      go_wp2
      exact HX.out wr i r _ _ _ _ _ _ _ _ _ _ _ _ _ _ _ _ _ _ _ _ _ _ _ _ _ _ _ _ _ _ _ _ _ _ _ _ _ _ hi16 HI2
end Go.Proofs.Ytlnidgkcgjlnaaa
