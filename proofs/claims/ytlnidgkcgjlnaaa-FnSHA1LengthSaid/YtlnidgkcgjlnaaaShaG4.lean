/-
  sha1.blockGeneric: its rounds 20 to 39.
-/
import Derived.Test.YtlnidgkcgjlnaaaShaG0
namespace Go.Proofs.Ytlnidgkcgjlnaaa
open Go.RowKit
set_option linter.unusedVariables false
set_option linter.unusedSimpArgs false

set_option maxRecDepth 1000000 in
set_option maxHeartbeats 40000000 in
theorem ring4_any {Q0 : Exit → Act → World → Prop} (w wr : World) (g : Nat) (M : Nat → Int) (s0 v : W5) (i : Nat) (r : Nat → Int) (y0 y1 y2 y3 y5 y6 y7 y8 y9 y10 y11 y18 y19 y20 y21 y22 y23 y24 y25 y26 y27 y28 y29 y30 y31 y32 y33 y34 y35 y36 y37 y38 y39 y40 y41 y42 y43 y44 y45 y46 y47 y48 y49 y50 y51 y52 y53 y54 y55 y56 y57 y58 y59 y60 y61 y62 y63 y64 y65 y66 y67 y68 y69 y70 y71 y72 y73 y74 y75 y76 y77 y78 y79 y80 y81 y82 y83 y84 y85 y86 y87 y88 y89 y90 y91 y92 y93 y94 y95 y96 y97 y98 y99 y100 y101 y102 y103 y104 y105 y106 y107 y108 y109 y110 y111 y112 y113 y114 y115 y116 y117 y118 y119 y120 y121 y122 y123 y124 y125 y126 y127 y128 y129 y130 y131 y132 y133 y134 y135 y136 y137 y138 y139 y140 y141 y142 y143 y144 y145 y146 y147 y148 y149 y150 y151 y152 y153 y154 y155 y156 y157 y158 y159 y160 y161 y162 y163 y164 y165 y166 y167 y168 y169 y170 y171 y172 y173 y174 y175 y176 y177 y178 y179 y180 y181 y182 y183 y184 y185 y186 y187 y188 y189 y190 y191 y192 y193 y194 y195 y196 y197 y198 y199 y200 y201 y202 y203 y204 y205 y206 y207 y208 y209 y210 y211 y212 y213 y214 y215 y216 y217 y218 y219 y220 y221 y222 y223 y224 y225 y226 y227 y228 y229 y230 y231 y232 y233 y234 y235 y236 y237 y238 y239 y240 y241 y242 y243 y244 y245 y246 y247 y248 y249 y250 y251 y252 y253 y254 y255 y256 y257 y258 y259 y260 y261 y262 y263 y264 y265 y266 y267 y268 y269 y270 y271 y272 y273 y274 y275 y276 y277 y278 y279 y280 y281 y282 y283 y284 y285 y286 y287 y288 y289 y290 y291 y292 y293 y294 y295 y296 y297 y298 y299 y300 y301 y302 y303 y304 y305 y306 y307 y308 y309 y310 y311 y312 y313 y314 y315 y316 y317 y318 y319 y320 y321 y322 y323 y324 y325 y326 y327 y328 y329 y330 y331 y332 y333 y334 y335 y336 y337 y338 y339 y340 y341 y342 y343 y344 y345 y346 y347 y348 y349 y350 y351 y352 y353 y354 y355 y356 y357 y358 y359 y360 y361 y362 y363 y364 y365 y366 y367 y368 y369 y370 y371 y372 y373 y374 y375 y376 y377 y378 y379 y380 y381 y382 y383 y384 y385 y386 y387 y388 y389 y390 y391 y392 y393 y394 y395 y396 : Value) (HVok : Hid s0.ok) (HG : Hid (w.heap.size = g)) (hi16 : i = 20) (HV3 : Hid (v = W5.rounds M i s0)) (HI3 : Hid (Ext w wr ∧ KAt wr g 101 .u32 16 r ∧ Ring M r i))
    (HX : Hid (∀ (wr : World) (i : Nat) (v : W5) (r : Nat → Int) (u23 u24 u25 u189 u190 u191 u192 u193 u194 u195 u196 u197 u198 u199 u200 u201 u202 u203 u204 u205 u206 u207 u208 u209 u210 u211 u212 u213 u214 u215 u216 u217 u218 u219 u220 u221 u222 u223 u224 u225 u226 u227 u228 u229 u230 u231 u232 u233 u234 u235 u236 u237 u238 u239 u240 u241 u242 : Value), i = 40 → Hid (v = W5.rounds M i s0) → Hid (Ext w wr ∧ KAt wr g 101 .u32 16 r ∧ Ring M r i) → Q0 (.exit 8) ⟨List.toArray (y0 :: y1 :: y2 :: y3 :: (.pointer (some ⟨g, 0, none⟩)) :: y5 :: y6 :: y7 :: y8 :: y9 :: y10 :: y11 :: (.int .u32 v.a) :: (.int .u32 v.b) :: (.int .u32 v.c) :: (.int .u32 v.d) :: (.int .u32 v.e) :: (.int .i64 i) :: y18 :: y19 :: y20 :: y21 :: y22 :: u23 :: u24 :: u25 :: y26 :: y27 :: y28 :: y29 :: y30 :: y31 :: y32 :: y33 :: y34 :: y35 :: y36 :: y37 :: y38 :: y39 :: y40 :: y41 :: y42 :: y43 :: y44 :: y45 :: y46 :: y47 :: y48 :: y49 :: y50 :: y51 :: y52 :: y53 :: y54 :: y55 :: y56 :: y57 :: y58 :: y59 :: y60 :: y61 :: y62 :: y63 :: y64 :: y65 :: y66 :: y67 :: y68 :: y69 :: y70 :: y71 :: y72 :: y73 :: y74 :: y75 :: y76 :: y77 :: y78 :: y79 :: y80 :: y81 :: y82 :: y83 :: y84 :: y85 :: y86 :: y87 :: y88 :: y89 :: y90 :: y91 :: y92 :: y93 :: y94 :: y95 :: y96 :: y97 :: y98 :: y99 :: y100 :: y101 :: y102 :: y103 :: y104 :: y105 :: y106 :: y107 :: y108 :: y109 :: y110 :: y111 :: y112 :: y113 :: y114 :: y115 :: y116 :: y117 :: y118 :: y119 :: y120 :: y121 :: y122 :: y123 :: y124 :: y125 :: y126 :: y127 :: y128 :: y129 :: y130 :: y131 :: y132 :: y133 :: y134 :: y135 :: y136 :: y137 :: y138 :: y139 :: y140 :: y141 :: y142 :: y143 :: y144 :: y145 :: y146 :: y147 :: y148 :: y149 :: y150 :: y151 :: y152 :: y153 :: y154 :: y155 :: y156 :: y157 :: y158 :: y159 :: y160 :: y161 :: y162 :: y163 :: y164 :: y165 :: y166 :: y167 :: y168 :: y169 :: y170 :: y171 :: y172 :: y173 :: y174 :: y175 :: y176 :: y177 :: y178 :: y179 :: y180 :: y181 :: y182 :: y183 :: y184 :: y185 :: y186 :: y187 :: y188 :: u189 :: u190 :: u191 :: u192 :: u193 :: u194 :: u195 :: u196 :: u197 :: u198 :: u199 :: u200 :: u201 :: u202 :: u203 :: u204 :: u205 :: u206 :: u207 :: u208 :: u209 :: u210 :: u211 :: u212 :: u213 :: u214 :: u215 :: u216 :: u217 :: u218 :: u219 :: u220 :: u221 :: u222 :: u223 :: u224 :: u225 :: u226 :: u227 :: u228 :: u229 :: u230 :: u231 :: u232 :: u233 :: u234 :: u235 :: u236 :: u237 :: u238 :: u239 :: u240 :: u241 :: u242 :: y243 :: y244 :: y245 :: y246 :: y247 :: y248 :: y249 :: y250 :: y251 :: y252 :: y253 :: y254 :: y255 :: y256 :: y257 :: y258 :: y259 :: y260 :: y261 :: y262 :: y263 :: y264 :: y265 :: y266 :: y267 :: y268 :: y269 :: y270 :: y271 :: y272 :: y273 :: y274 :: y275 :: y276 :: y277 :: y278 :: y279 :: y280 :: y281 :: y282 :: y283 :: y284 :: y285 :: y286 :: y287 :: y288 :: y289 :: y290 :: y291 :: y292 :: y293 :: y294 :: y295 :: y296 :: y297 :: y298 :: y299 :: y300 :: y301 :: y302 :: y303 :: y304 :: y305 :: y306 :: y307 :: y308 :: y309 :: y310 :: y311 :: y312 :: y313 :: y314 :: y315 :: y316 :: y317 :: y318 :: y319 :: y320 :: y321 :: y322 :: y323 :: y324 :: y325 :: y326 :: y327 :: y328 :: y329 :: y330 :: y331 :: y332 :: y333 :: y334 :: y335 :: y336 :: y337 :: y338 :: y339 :: y340 :: y341 :: y342 :: y343 :: y344 :: y345 :: y346 :: y347 :: y348 :: y349 :: y350 :: y351 :: y352 :: y353 :: y354 :: y355 :: y356 :: y357 :: y358 :: y359 :: y360 :: y361 :: y362 :: y363 :: y364 :: y365 :: y366 :: y367 :: y368 :: y369 :: y370 :: y371 :: y372 :: y373 :: y374 :: y375 :: y376 :: y377 :: y378 :: y379 :: y380 :: y381 :: y382 :: y383 :: y384 :: y385 :: y386 :: y387 :: y388 :: y389 :: y390 :: y391 :: y392 :: y393 :: y394 :: y395 :: y396 :: []), []⟩ wr)) :
    Code.wp Try.prog (Code.loop (lp 4)) Q0 ⟨List.toArray (y0 :: y1 :: y2 :: y3 :: (.pointer (some ⟨g, 0, none⟩)) :: y5 :: y6 :: y7 :: y8 :: y9 :: y10 :: y11 :: (.int .u32 v.a) :: (.int .u32 v.b) :: (.int .u32 v.c) :: (.int .u32 v.d) :: (.int .u32 v.e) :: (.int .i64 i) :: y18 :: y19 :: y20 :: y21 :: y22 :: y23 :: y24 :: y25 :: y26 :: y27 :: y28 :: y29 :: y30 :: y31 :: y32 :: y33 :: y34 :: y35 :: y36 :: y37 :: y38 :: y39 :: y40 :: y41 :: y42 :: y43 :: y44 :: y45 :: y46 :: y47 :: y48 :: y49 :: y50 :: y51 :: y52 :: y53 :: y54 :: y55 :: y56 :: y57 :: y58 :: y59 :: y60 :: y61 :: y62 :: y63 :: y64 :: y65 :: y66 :: y67 :: y68 :: y69 :: y70 :: y71 :: y72 :: y73 :: y74 :: y75 :: y76 :: y77 :: y78 :: y79 :: y80 :: y81 :: y82 :: y83 :: y84 :: y85 :: y86 :: y87 :: y88 :: y89 :: y90 :: y91 :: y92 :: y93 :: y94 :: y95 :: y96 :: y97 :: y98 :: y99 :: y100 :: y101 :: y102 :: y103 :: y104 :: y105 :: y106 :: y107 :: y108 :: y109 :: y110 :: y111 :: y112 :: y113 :: y114 :: y115 :: y116 :: y117 :: y118 :: y119 :: y120 :: y121 :: y122 :: y123 :: y124 :: y125 :: y126 :: y127 :: y128 :: y129 :: y130 :: y131 :: y132 :: y133 :: y134 :: y135 :: y136 :: y137 :: y138 :: y139 :: y140 :: y141 :: y142 :: y143 :: y144 :: y145 :: y146 :: y147 :: y148 :: y149 :: y150 :: y151 :: y152 :: y153 :: y154 :: y155 :: y156 :: y157 :: y158 :: y159 :: y160 :: y161 :: y162 :: y163 :: y164 :: y165 :: y166 :: y167 :: y168 :: y169 :: y170 :: y171 :: y172 :: y173 :: y174 :: y175 :: y176 :: y177 :: y178 :: y179 :: y180 :: y181 :: y182 :: y183 :: y184 :: y185 :: y186 :: y187 :: y188 :: y189 :: y190 :: y191 :: y192 :: y193 :: y194 :: y195 :: y196 :: y197 :: y198 :: y199 :: y200 :: y201 :: y202 :: y203 :: y204 :: y205 :: y206 :: y207 :: y208 :: y209 :: y210 :: y211 :: y212 :: y213 :: y214 :: y215 :: y216 :: y217 :: y218 :: y219 :: y220 :: y221 :: y222 :: y223 :: y224 :: y225 :: y226 :: y227 :: y228 :: y229 :: y230 :: y231 :: y232 :: y233 :: y234 :: y235 :: y236 :: y237 :: y238 :: y239 :: y240 :: y241 :: y242 :: y243 :: y244 :: y245 :: y246 :: y247 :: y248 :: y249 :: y250 :: y251 :: y252 :: y253 :: y254 :: y255 :: y256 :: y257 :: y258 :: y259 :: y260 :: y261 :: y262 :: y263 :: y264 :: y265 :: y266 :: y267 :: y268 :: y269 :: y270 :: y271 :: y272 :: y273 :: y274 :: y275 :: y276 :: y277 :: y278 :: y279 :: y280 :: y281 :: y282 :: y283 :: y284 :: y285 :: y286 :: y287 :: y288 :: y289 :: y290 :: y291 :: y292 :: y293 :: y294 :: y295 :: y296 :: y297 :: y298 :: y299 :: y300 :: y301 :: y302 :: y303 :: y304 :: y305 :: y306 :: y307 :: y308 :: y309 :: y310 :: y311 :: y312 :: y313 :: y314 :: y315 :: y316 :: y317 :: y318 :: y319 :: y320 :: y321 :: y322 :: y323 :: y324 :: y325 :: y326 :: y327 :: y328 :: y329 :: y330 :: y331 :: y332 :: y333 :: y334 :: y335 :: y336 :: y337 :: y338 :: y339 :: y340 :: y341 :: y342 :: y343 :: y344 :: y345 :: y346 :: y347 :: y348 :: y349 :: y350 :: y351 :: y352 :: y353 :: y354 :: y355 :: y356 :: y357 :: y358 :: y359 :: y360 :: y361 :: y362 :: y363 :: y364 :: y365 :: y366 :: y367 :: y368 :: y369 :: y370 :: y371 :: y372 :: y373 :: y374 :: y375 :: y376 :: y377 :: y378 :: y379 :: y380 :: y381 :: y382 :: y383 :: y384 :: y385 :: y386 :: y387 :: y388 :: y389 :: y390 :: y391 :: y392 :: y393 :: y394 :: y395 :: y396 :: []), []⟩ wr := by
  conv => arg 2; arg 1; whnf
  go_loopw [12, 13, 14, 15, 16, 17] (fun s12 s13 s14 s15 s16 s17 wr => ∃ (i : Nat) (v : W5) (r : Nat → Int), 20 ≤ i ∧ i ≤ 40 ∧ s12 = .int .u32 v.a ∧ s13 = .int .u32 v.b ∧ s14 = .int .u32 v.c ∧ s15 = .int .u32 v.d ∧ s16 = .int .u32 v.e ∧ s17 = .int .i64 i ∧ Hid (v = W5.rounds M i s0) ∧ Hid (Ext w wr ∧ KAt wr g 101 .u32 16 r ∧ Ring M r i)) (fun _ _ _ _ _ s17 _ => 40 - (intOf s17).toNat)
  case atStart => exact ⟨i, v, r, by omega, by omega, rfl, rfl, rfl, rfl, rfl, rfl, HV3, HI3⟩
  case round =>
    clear HI3 HV3
    clear hi16
    obtain ⟨i, v, r, hi0, hi, rfl, rfl, rfl, rfl, rfl, rfl, HV, HI⟩ := hrel
    by_cases hlt2 : i < 40
    · obtain ⟨a, b, c, dd, e⟩ := v
      have HA : Hid (W32 a ∧ W32 b ∧ W32 c ∧ W32 dd ∧ W32 e) := hide (by
        have h := W5.rounds_ok HVok.out M i
        rw [← HV.out] at h
        exact ⟨h.a, h.b, h.c, h.d, h.e⟩)
      obtain ⟨⟨a1, a2⟩, ⟨b1, b2⟩, ⟨c1, c2⟩, ⟨d1, d2⟩, ⟨e1, e2⟩⟩ := HA.out
      obtain ⟨j0, hj0⟩ : ∃ j, j = i % 16 := ⟨_, rfl⟩
      obtain ⟨j3, hj3⟩ : ∃ j, j = (i - 3) % 16 := ⟨_, rfl⟩
      obtain ⟨j8, hj8⟩ : ∃ j, j = (i - 8) % 16 := ⟨_, rfl⟩
      obtain ⟨j14, hj14⟩ : ∃ j, j = (i - 14) % 16 := ⟨_, rfl⟩
      have B0 : bits .and .i64 (i : Int) 15 = (j0 : Int) := by rw [bits_and15 _ (by omega)]; omega
      have B3 : bits .and .i64 ((i : Int) - 3) 15 = (j3 : Int) := by rw [bits_and15 _ (by omega)]; omega
      have B8 : bits .and .i64 ((i : Int) - 8) 15 = (j8 : Int) := by rw [bits_and15 _ (by omega)]; omega
      have B14 : bits .and .i64 ((i : Int) - 14) 15 = (j14 : Int) := by rw [bits_and15 _ (by omega)]; omega
      have p3 : IntKind.i64.wrap ((i : Int) - 3) = (i : Int) - 3 := IntWalk.i64_in _ (by omega)
      have p8 : IntKind.i64.wrap ((i : Int) - 8) = (i : Int) - 8 := IntWalk.i64_in _ (by omega)
      have p14 : IntKind.i64.wrap ((i : Int) - 14) = (i : Int) - 14 := IntWalk.i64_in _ (by omega)
      have l0 : (j0 : Int) < 16 := by omega
      have l3 : (j3 : Int) < 16 := by omega
      have l8 : (j8 : Int) < 16 := by omega
      have l14 : (j14 : Int) < 16 := by omega
      have c0 := HI.out.2.1.cell (i := j0) (by omega)
      have c3 := HI.out.2.1.cell (i := j3) (by omega)
      have c8 := HI.out.2.1.cell (i := j8) (by omega)
      have c14 := HI.out.2.1.cell (i := j14) (by omega)
      have z0 := HI.out.2.1.frozen j0
      have HT : Hid (rot1 (bits .xor .u32 (bits .xor .u32 (bits .xor .u32 (r j3) (r j8)) (r j14)) (r j0)) = sched M i) := hide (by rw [hj0, hj3, hj8, hj14]; exact HI.out.2.2.new (by omega))
      have HJ := hide hj0
      generalize r j0 = x0 at c0 HT
      generalize r j3 = x3 at c3 HT
      generalize r j8 = x8 at c8 HT
      generalize r j14 = x14 at c14 HT
      have hlt3 : (i : Int) < 40 := by omega
      clear hj0 hj3 hj8 hj14
      go_wp2
      go_quiet (fail)
      have HI2 : Hid (Ext w (wr.drewN nq) ∧ KAt (wr.drewN nq) g 101 .u32 16 r ∧ Ring M r i) := hide ⟨HI.out.1.drewN _, HI.out.2.1, HI.out.2.2⟩
      clear p3 p8 p14 B3 B8 B14 c3 c8 c14 l3 l8 l14 HI
      replace c0 : (wr.drewN nq).cell? ⟨g, j0, none⟩ = some (.int .u32 x0) := c0
      replace z0 : (wr.drewN nq).frozen? ⟨g, j0, none⟩ = false := z0
      generalize wr.drewN nq = W at HI2 c0 z0 ⊢
      go_wp2_with (go_at_call 58; refine (rotate1_any _ _ (bits32_lt _ _ _)).mono ?_; rintro e w2 ⟨rfl, hw2⟩; subst w2)
      rw [HT.out]
      obtain ⟨X, hX⟩ : ∃ X, X = sched M i := ⟨_, rfl⟩
      rw [← hX]
      have HI4 : Hid (Ext w (W.setCell ⟨g, j0, none⟩ (.int .u32 X)) ∧ KAt (W.setCell ⟨g, j0, none⟩ (.int .u32 X)) g 101 .u32 16 (updI r j0 X) ∧ Ring M (updI r j0 X) (i + 1)) := hide ⟨HI2.out.1.setCell (by have := HG.out; show w.heap.size ≤ g; omega) _, HI2.out.2.1.put j0 X, HI2.out.2.2.next (by rw [← HJ.out, updI_at, hX]) (fun j hj => updI_ne _ _ (by rw [HJ.out]; exact hj))⟩
      generalize W.setCell ⟨g, j0, none⟩ (.int .u32 X) = W4 at HI4 ⊢
      clear HI2 HT c0 z0
      have HXi := hide hX
      clear hX
      have ci := HI4.out.2.1.cell (i := j0) (by omega)
      rw [updI_at] at ci
      go_quiet ((go_at_call 58; exact Calls.quiet_of_same (rotate5_any _ _ HA.out.1)))
      clear ci B0
      have HI2 : Hid (Ext w (W4.drewN nq) ∧ KAt (W4.drewN nq) g 101 .u32 16 (updI r j0 X) ∧ Ring M (updI r j0 X) (i + 1)) := hide ⟨HI4.out.1.drewN _, HI4.out.2.1, HI4.out.2.2⟩
      generalize W4.drewN nq = Wz at HI2 ⊢
      clear HI4
      go_wp2_with (go_at_call 58; refine (rotate30_any _ _ HA.out.2.1).mono ?_; rintro e w2 ⟨rfl, hw2⟩; subst w2)
      go_roundw
      case rel =>
        refine ⟨i + 1, ⟨_, a, rot30 b, c, dd⟩, _, by omega, by omega, rfl, rfl, rfl, rfl, rfl, by go_num, hide ?_, HI2⟩
        rw [W5.rounds_succ, ← HV.out]
        refine round_rest i a b c dd e _ _ ?_
        try rw [show IntKind.u32.max = 4294967295 from rfl]
        rw [← round_par (by omega) (by omega), HXi.out]
      case measure => simp [intOf]; omega
    · have hi16 : i = 40 := by omega
      go_wp2
      exact HX.out wr i v r _ _ _ _ _ _ _ _ _ _ _ _ _ _ _ _ _ _ _ _ _ _ _ _ _ _ _ _ _ _ _ _ _ _ _ _ _ _ _ _ _ _ _ _ _ _ _ _ _ _ _ _ _ _ _ _ _ hi16 HV HI
end Go.Proofs.Ytlnidgkcgjlnaaa
