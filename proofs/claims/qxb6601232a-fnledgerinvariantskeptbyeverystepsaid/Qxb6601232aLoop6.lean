/-
  SEAT b6601232a. THE LOOP OF FnLedgerInvariantsKeptByEveryStep (the frame written out by program). By an AI agent.
-/
import Derived.Test.Qxb6601232aSw3
import Derived.BigQuiet
import Derived.Deep.DeepCutAuto
namespace Go.Proofs.Qxb6601232a
open Go.RowKit
set_option linter.unusedVariables false
set_option linter.unusedSimpArgs false

set_option maxRecDepth 1000000 in
set_option maxHeartbeats 40000000 in
theorem loop2 (u W3 : World) (L zz : Nat) (nus ks : List Int) (hss ass mss : List (List ByteArray)) (b6 b7 b8 b9 b10 : Option Addr) (q6 q7 q8 q9 q10 : Nat)
    (R6 : U64s (fun b => b < u.heap.size) u (.slice b6 nus.length q6) nus) (R7 : U8s (fun b => b < u.heap.size) u (.slice b7 ks.length q7) ks) (R8 : Nest Value.string (fun b => b < u.heap.size) u (.slice b8 hss.length q8) hss) (R9 : Nest Value.string (fun b => b < u.heap.size) u (.slice b9 ass.length q9) ass) (R10 : Nest Value.string (fun b => b < u.heap.size) u (.slice b10 mss.length q10) mss)
    (bnd : (∀ xs ∈ hss, xs.length ≤ 65536) ∧ (∀ xs ∈ ass, xs.length ≤ 65536) ∧ ∀ xs ∈ mss, xs.length ≤ 65536) (hnw : ∀ n ∈ nus, (Lit.int .u64 n).wf = true)
    (hsz : (∀ xs ∈ hss, ∀ n ∈ xs, n.size ≤ maxLen) ∧ (∀ xs ∈ ass, ∀ n ∈ xs, n.size ≤ maxLen) ∧ ∀ xs ∈ mss, ∀ n ∈ xs, n.size ≤ maxLen)
    (hln : hss.length = ks.length ∧ ass.length = ks.length ∧ mss.length = ks.length) (hzz : zz = Maps.size (numD nus)) (l5 : nus.length ≤ 65536) (l6 : ks.length ≤ 4096) (inv3 : Kp u L nus 0 0 W3) (code : Code) (hcode : code = body2) (Q0 : Exit → Act → World → Prop)
    (z0 z1 z2 z3 z4 z5 z11 z12 z13 z14 z15 z16 z17 z18 z19 z20 z21 z22 z23 z24 z29 z30 z31 z32 z33 z34 z35 z36 z37 z38 z39 z40 z41 z42 z43 z44 z45 z46 z47 z48 z49 z50 z51 z52 z53 z54 z55 z56 z57 z58 z59 z60 z61 z62 z63 z64 z65 z66 z67 z68 z69 z70 z71 z72 z73 z74 z75 z76 z77 z78 z79 z80 z81 z82 z83 z84 z85 z86 z87 z88 z89 z90 z91 z92 z93 z94 z95 z96 z97 z98 z99 z100 z101 z102 z103 z104 z105 z106 z107 z108 z109 z110 z111 z112 z113 z114 z115 z116 z117 z118 z119 z120 z121 z122 z123 z124 z125 z126 z127 z128 z129 z130 z131 z132 z133 z134 z135 z136 z137 z138 z139 z140 z141 z142 z143 z144 z145 z146 z147 z148 z149 z150 z151 z152 z153 z154 z155 z156 z157 z158 z159 z160 z161 z162 z163 z164 z165 z166 z167 z168 z169 z170 z171 z172 z173 z174 z175 z176 z177 z178 z179 z180 z181 z182 z183 z184 z185 z186 z187 z188 z189 z190 z191 z192 z193 z194 z195 z196 z197 z198 z199 z200 z201 z202 z203 z204 z205 z206 z207 z208 z209 z210 z211 z212 z213 z214 z215 z216 z217 z218 z219 z220 z221 z222 z223 z224 z225 z226 z227 z228 z229 z230 z231 z232 z233 z234 z235 z236 z237 z238 z239 z240 z241 z242 z243 z244 z245 z246 z247 z248 z249 z250 z251 z252 z253 z254 z255 z256 z257 z258 z259 z260 z261 z262 z263 z264 z265 z266 z267 z268 z269 z270 z271 z272 z273 z274 z275 z276 z277 z278 z279 z280 z281 z282 z283 z284 z285 z286 z287 z288 z289 z290 z291 z292 z293 z294 z295 z296 z297 z298 z299 z300 z301 z302 z303 z304 z305 z306 z307 z308 z309 z310 z311 z312 z313 z314 z315 z316 z317 z318 z319 z320 z321 z322 z323 z324 z325 z326 z327 z328 z329 z330 z331 z332 z333 z334 z335 z336 z337 z338 z339 z340 z341 z342 z343 z344 z345 z346 z347 z348 z349 z350 z351 z352 z353 z354 z355 z356 z357 z358 z359 z360 z361 z362 z363 z364 z365 z366 z367 z368 z369 z370 z371 z372 z373 z374 z375 z376 z377 z378 z379 z380 z381 z382 z383 z384 z385 z386 z387 z388 z389 z390 z391 z392 z393 z394 z395 z396 z397 z398 z399 z400 z401 z402 z403 z404 z405 z406 z407 z408 z409 z410 z411 z412 z413 z414 z415 z416 z417 z418 z419 z420 z421 z422 z423 z424 z425 : Value)
    (hexit : ∀ (rc : Nat) (w'' : World) (v22 v29 v30 v31 v32 v33 v34 v35 v36 v37 v234 v235 v236 v237 v238 v239 v240 v241 v242 v243 v244 v245 v246 v247 v248 v249 v250 v251 v252 v253 v254 v255 v256 v257 v258 v259 v260 v261 v262 v263 v264 v265 v266 v267 v268 v269 v270 v271 v272 v273 v274 v275 v276 v277 v278 v279 v280 v281 v282 v283 v284 v285 v286 v287 v288 v289 v290 v291 v292 v293 v294 v295 v296 v297 v298 v299 v300 v301 v302 v303 v304 v305 v306 v307 v308 v309 v310 v311 v312 v313 v314 v315 v316 v317 v318 v319 v320 v321 v322 v323 v324 v325 v326 v327 v328 v329 v330 v331 v332 v333 v334 v335 v336 v337 v338 v339 v340 v341 v342 v343 v344 v345 v346 v347 v348 v349 v350 v351 v352 v353 v354 v355 v356 v357 v358 v359 v360 v361 v362 v363 v364 v365 v366 v367 v368 v369 v370 v371 v372 v373 v374 v375 v376 v377 v378 v379 v380 v381 v382 v383 v384 v385 v386 v387 v388 v389 v390 v391 v392 v393 v394 v395 v396 v397 : Value), rc ≤ 4096 → Kp u L nus ks.length rc w'' → Q0 (.exit 2) ⟨List.toArray (z0 :: z1 :: z2 :: z3 :: z4 :: z5 :: .slice b6 nus.length q6 :: .slice b7 ks.length q7 :: .slice b8 hss.length q8 :: .slice b9 ass.length q9 :: .slice b10 mss.length q10 :: z11 :: z12 :: z13 :: z14 :: z15 :: z16 :: z17 :: z18 :: z19 :: z20 :: z21 :: v22 :: z23 :: z24 :: .pointer (some ⟨L, 0, none⟩) :: .int .i64 zz :: .int .i64 rc :: .int .i64 ks.length :: v29 :: v30 :: v31 :: v32 :: v33 :: v34 :: v35 :: v36 :: v37 :: z38 :: z39 :: z40 :: z41 :: z42 :: z43 :: z44 :: z45 :: z46 :: z47 :: z48 :: z49 :: z50 :: z51 :: z52 :: z53 :: z54 :: z55 :: z56 :: z57 :: z58 :: z59 :: z60 :: z61 :: z62 :: z63 :: z64 :: z65 :: z66 :: z67 :: z68 :: z69 :: z70 :: z71 :: z72 :: z73 :: z74 :: z75 :: z76 :: z77 :: z78 :: z79 :: z80 :: z81 :: z82 :: z83 :: z84 :: z85 :: z86 :: z87 :: z88 :: z89 :: z90 :: z91 :: z92 :: z93 :: z94 :: z95 :: z96 :: z97 :: z98 :: z99 :: z100 :: z101 :: z102 :: z103 :: z104 :: z105 :: z106 :: z107 :: z108 :: z109 :: z110 :: z111 :: z112 :: z113 :: z114 :: z115 :: z116 :: z117 :: z118 :: z119 :: z120 :: z121 :: z122 :: z123 :: z124 :: z125 :: z126 :: z127 :: z128 :: z129 :: z130 :: z131 :: z132 :: z133 :: z134 :: z135 :: z136 :: z137 :: z138 :: z139 :: z140 :: z141 :: z142 :: z143 :: z144 :: z145 :: z146 :: z147 :: z148 :: z149 :: z150 :: z151 :: z152 :: z153 :: z154 :: z155 :: z156 :: z157 :: z158 :: z159 :: z160 :: z161 :: z162 :: z163 :: z164 :: z165 :: z166 :: z167 :: z168 :: z169 :: z170 :: z171 :: z172 :: z173 :: z174 :: z175 :: z176 :: z177 :: z178 :: z179 :: z180 :: z181 :: z182 :: z183 :: z184 :: z185 :: z186 :: z187 :: z188 :: z189 :: z190 :: z191 :: z192 :: z193 :: z194 :: z195 :: z196 :: z197 :: z198 :: z199 :: z200 :: z201 :: z202 :: z203 :: z204 :: z205 :: z206 :: z207 :: z208 :: z209 :: z210 :: z211 :: z212 :: z213 :: z214 :: z215 :: z216 :: z217 :: z218 :: z219 :: z220 :: z221 :: z222 :: z223 :: z224 :: z225 :: z226 :: z227 :: z228 :: z229 :: z230 :: z231 :: z232 :: z233 :: v234 :: v235 :: v236 :: v237 :: v238 :: v239 :: v240 :: v241 :: v242 :: v243 :: v244 :: v245 :: v246 :: v247 :: v248 :: v249 :: v250 :: v251 :: v252 :: v253 :: v254 :: v255 :: v256 :: v257 :: v258 :: v259 :: v260 :: v261 :: v262 :: v263 :: v264 :: v265 :: v266 :: v267 :: v268 :: v269 :: v270 :: v271 :: v272 :: v273 :: v274 :: v275 :: v276 :: v277 :: v278 :: v279 :: v280 :: v281 :: v282 :: v283 :: v284 :: v285 :: v286 :: v287 :: v288 :: v289 :: v290 :: v291 :: v292 :: v293 :: v294 :: v295 :: v296 :: v297 :: v298 :: v299 :: v300 :: v301 :: v302 :: v303 :: v304 :: v305 :: v306 :: v307 :: v308 :: v309 :: v310 :: v311 :: v312 :: v313 :: v314 :: v315 :: v316 :: v317 :: v318 :: v319 :: v320 :: v321 :: v322 :: v323 :: v324 :: v325 :: v326 :: v327 :: v328 :: v329 :: v330 :: v331 :: v332 :: v333 :: v334 :: v335 :: v336 :: v337 :: v338 :: v339 :: v340 :: v341 :: v342 :: v343 :: v344 :: v345 :: v346 :: v347 :: v348 :: v349 :: v350 :: v351 :: v352 :: v353 :: v354 :: v355 :: v356 :: v357 :: v358 :: v359 :: v360 :: v361 :: v362 :: v363 :: v364 :: v365 :: v366 :: v367 :: v368 :: v369 :: v370 :: v371 :: v372 :: v373 :: v374 :: v375 :: v376 :: v377 :: v378 :: v379 :: v380 :: v381 :: v382 :: v383 :: v384 :: v385 :: v386 :: v387 :: v388 :: v389 :: v390 :: v391 :: v392 :: v393 :: v394 :: v395 :: v396 :: v397 :: z398 :: z399 :: z400 :: z401 :: z402 :: z403 :: z404 :: z405 :: z406 :: z407 :: z408 :: z409 :: z410 :: z411 :: z412 :: z413 :: z414 :: z415 :: z416 :: z417 :: z418 :: z419 :: z420 :: z421 :: z422 :: z423 :: z424 :: z425 :: []), []⟩ w'') :
    Code.wp Try.prog (Code.loop code) Q0 ⟨List.toArray (z0 :: z1 :: z2 :: z3 :: z4 :: z5 :: .slice b6 nus.length q6 :: .slice b7 ks.length q7 :: .slice b8 hss.length q8 :: .slice b9 ass.length q9 :: .slice b10 mss.length q10 :: z11 :: z12 :: z13 :: z14 :: z15 :: z16 :: z17 :: z18 :: z19 :: z20 :: z21 :: z22 :: z23 :: z24 :: .pointer (some ⟨L, 0, none⟩) :: .int .i64 zz :: .int .i64 0 :: .int .i64 0 :: z29 :: z30 :: z31 :: z32 :: z33 :: z34 :: z35 :: z36 :: z37 :: z38 :: z39 :: z40 :: z41 :: z42 :: z43 :: z44 :: z45 :: z46 :: z47 :: z48 :: z49 :: z50 :: z51 :: z52 :: z53 :: z54 :: z55 :: z56 :: z57 :: z58 :: z59 :: z60 :: z61 :: z62 :: z63 :: z64 :: z65 :: z66 :: z67 :: z68 :: z69 :: z70 :: z71 :: z72 :: z73 :: z74 :: z75 :: z76 :: z77 :: z78 :: z79 :: z80 :: z81 :: z82 :: z83 :: z84 :: z85 :: z86 :: z87 :: z88 :: z89 :: z90 :: z91 :: z92 :: z93 :: z94 :: z95 :: z96 :: z97 :: z98 :: z99 :: z100 :: z101 :: z102 :: z103 :: z104 :: z105 :: z106 :: z107 :: z108 :: z109 :: z110 :: z111 :: z112 :: z113 :: z114 :: z115 :: z116 :: z117 :: z118 :: z119 :: z120 :: z121 :: z122 :: z123 :: z124 :: z125 :: z126 :: z127 :: z128 :: z129 :: z130 :: z131 :: z132 :: z133 :: z134 :: z135 :: z136 :: z137 :: z138 :: z139 :: z140 :: z141 :: z142 :: z143 :: z144 :: z145 :: z146 :: z147 :: z148 :: z149 :: z150 :: z151 :: z152 :: z153 :: z154 :: z155 :: z156 :: z157 :: z158 :: z159 :: z160 :: z161 :: z162 :: z163 :: z164 :: z165 :: z166 :: z167 :: z168 :: z169 :: z170 :: z171 :: z172 :: z173 :: z174 :: z175 :: z176 :: z177 :: z178 :: z179 :: z180 :: z181 :: z182 :: z183 :: z184 :: z185 :: z186 :: z187 :: z188 :: z189 :: z190 :: z191 :: z192 :: z193 :: z194 :: z195 :: z196 :: z197 :: z198 :: z199 :: z200 :: z201 :: z202 :: z203 :: z204 :: z205 :: z206 :: z207 :: z208 :: z209 :: z210 :: z211 :: z212 :: z213 :: z214 :: z215 :: z216 :: z217 :: z218 :: z219 :: z220 :: z221 :: z222 :: z223 :: z224 :: z225 :: z226 :: z227 :: z228 :: z229 :: z230 :: z231 :: z232 :: z233 :: z234 :: z235 :: z236 :: z237 :: z238 :: z239 :: z240 :: z241 :: z242 :: z243 :: z244 :: z245 :: z246 :: z247 :: z248 :: z249 :: z250 :: z251 :: z252 :: z253 :: z254 :: z255 :: z256 :: z257 :: z258 :: z259 :: z260 :: z261 :: z262 :: z263 :: z264 :: z265 :: z266 :: z267 :: z268 :: z269 :: z270 :: z271 :: z272 :: z273 :: z274 :: z275 :: z276 :: z277 :: z278 :: z279 :: z280 :: z281 :: z282 :: z283 :: z284 :: z285 :: z286 :: z287 :: z288 :: z289 :: z290 :: z291 :: z292 :: z293 :: z294 :: z295 :: z296 :: z297 :: z298 :: z299 :: z300 :: z301 :: z302 :: z303 :: z304 :: z305 :: z306 :: z307 :: z308 :: z309 :: z310 :: z311 :: z312 :: z313 :: z314 :: z315 :: z316 :: z317 :: z318 :: z319 :: z320 :: z321 :: z322 :: z323 :: z324 :: z325 :: z326 :: z327 :: z328 :: z329 :: z330 :: z331 :: z332 :: z333 :: z334 :: z335 :: z336 :: z337 :: z338 :: z339 :: z340 :: z341 :: z342 :: z343 :: z344 :: z345 :: z346 :: z347 :: z348 :: z349 :: z350 :: z351 :: z352 :: z353 :: z354 :: z355 :: z356 :: z357 :: z358 :: z359 :: z360 :: z361 :: z362 :: z363 :: z364 :: z365 :: z366 :: z367 :: z368 :: z369 :: z370 :: z371 :: z372 :: z373 :: z374 :: z375 :: z376 :: z377 :: z378 :: z379 :: z380 :: z381 :: z382 :: z383 :: z384 :: z385 :: z386 :: z387 :: z388 :: z389 :: z390 :: z391 :: z392 :: z393 :: z394 :: z395 :: z396 :: z397 :: z398 :: z399 :: z400 :: z401 :: z402 :: z403 :: z404 :: z405 :: z406 :: z407 :: z408 :: z409 :: z410 :: z411 :: z412 :: z413 :: z414 :: z415 :: z416 :: z417 :: z418 :: z419 :: z420 :: z421 :: z422 :: z423 :: z424 :: z425 :: []), []⟩ W3 := by
  subst hcode
  have R6 := hid R6
  have R7 := hid R7
  have R8 := hid R8
  have R9 := hid R9
  have R10 := hid R10
  have bnd := hid bnd
  have hnwH := hid hnw
  have hszH := hid hsz
  have hlnH := hid hln
  have hzzH := hid hzz
  have inv3 := hid inv3
  have hexitH := hid hexit
  clear hnw hsz hln hzz hexit
  conv => arg 2; arg 1; whnf
  go_loopw [27, 28] (fun r i wr => ∃ rc k : Nat, k ≤ ks.length ∧ r = .int .i64 rc ∧ i = .int .i64 k ∧ Kp u L nus k rc wr) (fun _ i _ => ks.length - (intOf i).toNat)
  case atStart => exact ⟨0, 0, by omega, rfl, rfl, inv3.out⟩
  case round =>
    clear inv3
    obtain ⟨rc, k, hk, rfl, rfl, hkp⟩ := hrel
    obtain ⟨wo, hwo⟩ : ∃ wo : World, wo = wr := ⟨_, rfl⟩
    subst hwo
    obtain ⟨qs1, s1, lv1, t31, nb1, recs1, m1, D1, inv⟩ := hkp
    have fr14 := hid inv.2.2.2.2.2.2.2.2.2.2.2.2.2
    have hk4 : k ≤ 4096 := by omega
    have hrck : rc ≤ k := inv.2.2.2.2.1
    have invH := hid inv
    clear inv
    by_cases hlt : k < ks.length
    · obtain ⟨x, hx⟩ : ∃ x, ks[k]? = some x := ⟨_, List.getElem?_eq_getElem hlt⟩
      obtain ⟨b7', o7', rfl, d7⟩ := rd_cell (f := Value.int .u8) (Rd.fr R7.out fr14.out) hx
      clear hx
      go_upto_if 244 with fail
      refine sw u wo L k rc b7' o7' x nus ks hss ass mss b8 b9 b10 q7 q8 q9 q10 d7 R8.out R9.out R10.out bnd.out hszH.out hlnH.out hlt l6 qs1 s1 lv1 t31 nb1 recs1 m1 D1 invH.out _ (by first | rfl | simp) _ (by kernel_rfl) _ _ _ _ _ _ _ _ _ _ _ _ _ _ _ _ _ _ _ _ _ _ _ _ _ _ _ _ _ _ _ _ _ _ _ _ _ _ _ _ _ _ _ _ _ _ _ _ _ _ _ _ _ _ _ _ _ _ _ _ _ _ _ _ _ _ _ _ _ _ _ _ _ _ _ _ _ _ _ _ _ _ _ _ _ _ _ _ _ _ _ _ _ _ _ _ _ _ _ _ _ _ _ _ _ _ _ _ _ _ _ _ _ _ _ _ _ _ _ _ _ _ _ _ _ _ _ _ _ _ _ _ _ _ _ _ _ _ _ _ _ _ _ _ _ _ _ _ _ _ _ _ _ _ _ _ _ _ _ _ _ _ _ _ _ _ _ _ _ _ _ _ _ _ _ _ _ _ _ _ _ _ _ _ _ _ _ _ _ _ _ _ _ _ _ _ _ _ _ _ _ _ _ _ _ _ _ _ _ _ _ _ _ _ _ _ _ _ _ _ _ _ _ _ _ _ _ _ _ _ _ _ _ _ _ _ _ _ _ _ _ _ _ _ _ _ _ _ _ _ _ _ _ _ _ _ _ _ _ _ _ _ _ _ _ _ _ _ _ _ _ _ _ _ _ _ _ _ _ _ _ _ _ _ _ _ _ _ _ _ _ _ _ _ _ _ _ _ _ _ _ _ _ _ _ _ _ _ _ _ _ _ _ _ _ _ _ _ _ _ _ _ _ _ _ _ _ _ _ _ _ _ _ _ _ _ _ _ _ _ _ _ _ _ _ _ _ _ _ _ _ _ _ _ _ _ _ _ _ _ _ _ _ _ _ _ _ _ _ _ _ _ _ _ _ _ _ _ _ _ _ _ _ _ _ _ _ _ _ _ _ _ _ _ _ _ _ _ _ _ _ _ _ _ _ _ _ _ _ _ _ _ _ _ _ _ _ _ _ ?_
      intro rc' wc y22 y29 y30 y31 y32 y33 y34 y35 y36 y37 y245 y246 y247 y248 y249 y250 y251 y252 y253 y254 y255 y256 y257 y258 y259 y260 y261 y262 y263 y264 y265 y266 y267 y268 y269 y270 y271 y272 y273 y274 y275 y276 y277 y278 y279 y280 y281 y282 y283 y284 y285 y286 y287 y288 y289 y290 y291 y292 y293 y294 y295 y296 y297 y298 y299 y300 y301 y302 y303 y304 y305 y306 y307 y308 y309 y310 y311 y312 y313 y314 y315 y316 y317 y318 y319 y320 y321 y322 y323 y324 y325 y326 y327 y328 y329 y330 y331 y332 y333 y334 y335 y336 y337 y338 y339 y340 y341 y342 y343 y344 y345 y346 y347 y348 y349 y350 y351 y352 y353 y354 y355 y356 y357 y358 y359 y360 y361 y362 y363 y364 y365 y366 y367 y368 y369 y370 y371 y372 y373 y374 y375 y376 y377 y378 y379 y380 y381 y382 y383 y384 hrc' hkp
      obtain ⟨qs3, s3, lv3, t33, nb3, recs3, m3, D3, inv3⟩ := hkp
      have h45 := hid (inv3.k45 (by omega))
      have inv3H := hid inv3
      clear inv3 invH
      go_wp2_with fail
      refine h45.out.mono ?_
      rintro e w5 ⟨rfl, hq5⟩
      clear h45
      have inv5 := hid (inv3H.out.fr hq5.fr)
      clear hq5 inv3H
      by_cases hz : rc' = 0
      · subst hz
        have h29 := inv5.out.k29 rfl (Rd.fr R6.out inv5.out.2.2.2.2.2.2.2.2.2.2.2.2.2) hnwH.out (by omega)
        rw [← hzzH.out] at h29
        have h29 := hid h29
        go_wp2_with fail
        refine h29.out.mono ?_
        rintro e w6 ⟨rfl, hf6⟩
        clear h29
        have inv6 := hid (inv5.out.fr hf6)
        clear hf6 inv5
        go_wp2
        go_roundw
        case rel => exact ⟨0, k + 1, by omega, rfl, by go_num, _, _, _, _, _, _, _, _, inv6.out⟩
        case measure => simp [intOf]; omega
      · have h20 := inv5.out.k20
        rw [inv5.out.2.2.2.2.2.2.2.2.2.2.2.2.1 hz, show Maps.size (.map [] : DataW Unit) = 0 by simp [Maps.size]] at h20
        have h20 := hid h20
        have hz1 : ((rc' : Int) == 0) = false := by simp; omega
        have hz2 : ¬ ((rc' : Int) = 0) := by omega
        go_wp2_with fail
        refine h20.out.mono ?_
        rintro e w' ⟨rfl, hw⟩
        obtain rfl : w5 = w' := hw.symm
        clear h20
        go_wp2
        go_roundw
        case rel => exact ⟨rc', k + 1, by omega, rfl, by go_num, _, _, _, _, _, _, _, _, inv5.out⟩
        case measure => simp [intOf]; omega
    · obtain rfl : k = ks.length := by omega
      clear hlt hk
      go_wp2_with fail
      exact hexitH.out rc wo _ _ _ _ _ _ _ _ _ _ _ _ _ _ _ _ _ _ _ _ _ _ _ _ _ _ _ _ _ _ _ _ _ _ _ _ _ _ _ _ _ _ _ _ _ _ _ _ _ _ _ _ _ _ _ _ _ _ _ _ _ _ _ _ _ _ _ _ _ _ _ _ _ _ _ _ _ _ _ _ _ _ _ _ _ _ _ _ _ _ _ _ _ _ _ _ _ _ _ _ _ _ _ _ _ _ _ _ _ _ _ _ _ _ _ _ _ _ _ _ _ _ _ _ _ _ _ _ _ _ _ _ _ _ _ _ _ _ _ _ _ _ _ _ _ _ _ _ _ _ _ _ _ _ _ _ _ _ _ _ _ _ _ _ _ _ _ _ _ _ _ _ _ _ (by omega) ⟨_, _, _, _, _, _, _, _, invH.out⟩

end Go.Proofs.Qxb6601232a
