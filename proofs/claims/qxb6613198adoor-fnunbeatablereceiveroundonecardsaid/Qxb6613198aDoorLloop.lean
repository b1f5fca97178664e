import Derived.Test.Qxb6613198aDoorMloop
namespace Go.Proofs.Qxb6613198aDoor
open Go.ChangeShapes Go.WideShapes Go.ChangeAt Go.RowKit
open Plain
set_option linter.unusedVariables false
set_option linter.unusedSimpArgs false
noncomputable def loop3b : Code := (loopsOf (Tryd.f3.body.getD .skip)).getD 1 .skip
def dm : Msg := ⟨0, 0, .slice none 0 0, []⟩
def fld (m : Msg) (k : Nat) : Value := if k = 0 then .int .i64 m.f else if k = 1 then .int .i64 m.t else m.pv
/-- The messages in memory, the first j of them laid. -/
def mA (ms : List Msg) (N j : Nat) : Array Value := ((List.range (N * 3)).map fun q => fld (if q / 3 < j then ms.getD (q / 3) dm else dm) (q % 3)).toArray
theorem mA_get (ms : List Msg) (N j q : Nat) (hq : q < N * 3) : (mA ms N j)[q]? = some (fld (if q / 3 < j then ms.getD (q / 3) dm else dm) (q % 3)) := by
  simp [mA, hq]
theorem mA_size (ms : List Msg) (N j : Nat) : (mA ms N j).size = N * 3 := by simp [mA]
theorem mA_set (ms : List Msg) (N j : Nat) (m : Msg) (hj : j < N) (hm : ms.getD j dm = m) :
    (((mA ms N j).setIfInBounds (j * 3) (.int .i64 m.f)).setIfInBounds (j * 3 + 1) (.int .i64 m.t)).setIfInBounds (j * 3 + 2) m.pv = mA ms N (j + 1) := by
  apply Array.ext_getElem?
  intro q
  by_cases hq : q < N * 3
  · rw [mA_get _ _ _ _ hq]
    simp only [Array.getElem?_setIfInBounds, Array.size_setIfInBounds, mA_size]
    by_cases e2 : j * 3 + 2 = q
    · rw [if_pos e2, if_pos (by omega), ← e2, show (j * 3 + 2) / 3 = j by omega, show (j * 3 + 2) % 3 = 2 by omega, if_pos (by omega), hm]
      rfl
    rw [if_neg e2]
    by_cases e1 : j * 3 + 1 = q
    · rw [if_pos e1, if_pos (by omega), ← e1, show (j * 3 + 1) / 3 = j by omega, show (j * 3 + 1) % 3 = 1 by omega, if_pos (by omega), hm]
      rfl
    rw [if_neg e1]
    by_cases e0 : j * 3 = q
    · rw [if_pos e0, if_pos (by omega), ← e0, show (j * 3) / 3 = j by omega, show (j * 3) % 3 = 0 by omega, if_pos (by omega), hm]
      rfl
    rw [if_neg e0, mA_get _ _ _ _ hq]
    by_cases c : q / 3 < j
    · rw [if_pos c, if_pos (by omega)]
    · rw [if_neg c, if_neg (by omega)]
  · rw [Array.getElem?_eq_none (by simp [mA_size]; omega), Array.getElem?_eq_none (by simp [mA_size]; omega)]
theorem info28 : (Tryd.prog.info? 28).map (fun i => (i.zero, i.size, i.bytes)) = some (some (.agg #[.int .i64 0, .int .i64 0, .slice none 0 0]), 3, 40) := by kernel_rfl
theorem made_mA (ms : List Msg) (N : Nat) : madeCells #[.int .i64 0, .int .i64 0, .slice none 0 0] (N * 3) = mA ms N 0 := by
  apply Array.ext_getElem?
  intro q
  by_cases hq : q < N * 3
  · rw [mA_get _ _ _ _ hq, if_neg (by omega)]
    simp only [madeCells, Array.getElem?_map, Array.getElem?_range, if_pos hq, Option.map_some]
    rcases (show q % 3 = 0 ∨ q % 3 = 1 ∨ q % 3 = 2 by omega) with h | h | h
    all_goals
      show some (#[Value.int .i64 0, .int .i64 0, .slice none 0 0][q % 3]!) = _
      rw [h]
      rfl
  · rw [Array.getElem?_eq_none (by simp [size_madeCells]; omega), Array.getElem?_eq_none (by simp [mA_size]; omega)]
theorem make26 (ms : List Msg) (N : Nat) (hN : N ≤ 65536) (w : World) : (Instr.makeSlice 26 (.int .i64 N) (.int .i64 N)).run Tryd.prog w = .ok (.slice (some ⟨w.heap.size, 0, none⟩) N N) (w.alloc (.cells (mA ms N 0) 28)) := by
  obtain ⟨i0, hi, hz0, hz1, hz2⟩ := info_parts info28
  have h := run_make (P := Tryd.prog) w 26 28 i0 _ (by kernel_rfl) hi hz0 .i64 .i64 N N (by omega) (by omega) (by rw [hz2]; omega) (by omega)
  rw [hz1, Int.toNat_natCast] at h
  rw [h, ← made_mA]
  rfl

def LI (w0 wx : World) (bm NN : Nat) (ms : List Msg) (j : Nat) : Prop := Blk wx bm (mA ms NN j) 28 ∧ Below bm w0 wx ∧ bm < wx.heap.size

set_option maxHeartbeats 4000000 in
set_option maxRecDepth 100000 in
theorem msgs_loop (w0 w : World) (id NN fc pc bm : Nat) (fo po : Option Addr) (ms : List Msg) (c1 c2 c3 c6 c7 c8 c9 c10 c11 c12 c13 c14 c17 c18 c19 c20 c21 c22 c23 c24 c25 c26 c27 c28 c29 c30 c31 c32 c33 c34 c35 c36 c37 c38 c39 c40 c41 c42 c43 c44 c45 c46 c47 c48 c49 c50 c51 c52 c53 c54 c55 c56 c57 c58 c59 c60 c61 c62 c63 c64 c65 c66 c67 c68 c69 c70 c71 c72 c73 c74 c75 c76 c77 c78 c79 c80 c81 c82 c83 c84 c85 c86 c87 c88 c89 c90 c91 c92 c93 c94 c95 c96 c97 c98 c99 c100 c101 c102 c103 c104 c105 c106 c107 c108 c109 c110 c111 c112 c113 c114 c115 c116 c117 c118 c119 c120 c121 c122 c123 c124 c125 c126 c127 c128 c129 c130 c131 c132 c133 c134 c135 c136 c137 c138 c139 c140 c141 c142 c143 c144 c145 c146 c147 c148 c149 c150 c151 c152 c153 c154 c155 c156 c157 c158 c159 c160 c161 c162 c163 c164 c165 c166 c167 c168 c169 c170 c171 c172 c173 c174 c175 c176 c177 c178 c179 c180 c181 c182 c183 c184 c185 c186 c187 c188 c189 c190 c191 c192 c193 c194 c195 c196 c197 c198 c199 c200 c201 c202 c203 c204 c205 c206 c207 c208 c209 c210 c211 c212 c213 c214 c215 c216 c217 c218 c219 c220 c221 c222 c223 c224 c225 c226 c227 c228 c229 c230 c231 c232 c233 c234 c235 c236 c237 c238 c239 c240 c241 c242 c243 c244 c245 c246 c247 c248 c249 c250 c251 c252 c253 c254 c255 c256 c257 c258 c259 c260 c261 c262 c263 c264 c265 c266 c267 c268 c269 c270 c271 c272 c273 c274 c275 c276 c277 c278 c279 c280 c281 c282 c283 c284 c285 c286 c287 c288 c289 c290 c291 c292 c293 c294 c295 c296 c297 c298 c299 c300 c301 c302 c303 c304 c305 c306 c307 c308 c309 c310 c311 c312 c313 c314 c315 c316 c317 c318 c319 c320 c321 c322 c323 c324 c325 c326 c327 c328 c329 c330 c331 c332 c333 c334 c335 c336 c337 c338 c339 c340 c341 c342 c343 c344 c345 c346 c347 c348 c349 c350 c351 c352 c353 c354 c355 c356 c357 c358 c359 c360 c361 c362 c363 c364 c365 c366 c367 c368 c369 c370 c371 c372 c373 c374 c375 c376 c377 c378 c379 c380 c381 c382 c383 c384 c385 c386 c387 c388 c389 c390 c391 c392 c393 c394 c395 c396 c397 c398 c399 c400 c401 c402 c403 c404 c405 c406 c407 c408 c409 c410 c411 c412 c413 c414 c415 c416 c417 c418 c419 c420 c421 c422 c423 c424 c425 c426 c427 c428 c429 c430 c431 c432 c433 c434 c435 c436 c437 c438 c439 c440 c441 c442 c443 c444 c445 c446 c447 c448 c449 c450 c451 c452 c453 c454 c455 c456 c457 c458 c459 c460 c461 c462 c463 c464 c465 c466 c467 c468 c469 c470 c471 c472 c473 c474 c475 c476 c477 c478 c479 c480 c481 c482 : Value) (Q : Exit → Act → World → Prop)
    (HM : Hid (LI w0 w bm NN ms 0)) (hN : NN ≤ 65536) (HIN : Hid (Inp bm w0 fo po NN ms)) (HB : Hid (bm ≤ w0.heap.size)) (HT : Hid (∀ i (hi : i < ms.length), ms[i].t = id))
    (HQ : Hid (∀ (u16 u137 u138 u139 u140 u141 u142 u143 u144 u145 u146 u147 u148 u149 u150 u151 u152 u153 u154 u155 : Value) (wx : World), Hid (LI w0 wx bm NN ms NN) → Q (.exit 2) ⟨List.toArray (.int .i64 id :: c1 :: c2 :: c3 :: .slice fo NN fc :: .slice po NN pc :: c6 :: c7 :: c8 :: c9 :: c10 :: c11 :: c12 :: c13 :: c14 :: .slice (some ⟨bm, 0, none⟩) NN NN :: u16 :: c17 :: c18 :: c19 :: c20 :: c21 :: c22 :: c23 :: c24 :: c25 :: c26 :: c27 :: c28 :: c29 :: c30 :: c31 :: c32 :: c33 :: c34 :: c35 :: c36 :: c37 :: c38 :: c39 :: c40 :: c41 :: c42 :: c43 :: c44 :: c45 :: c46 :: c47 :: c48 :: c49 :: c50 :: c51 :: c52 :: c53 :: c54 :: c55 :: c56 :: c57 :: c58 :: c59 :: c60 :: c61 :: c62 :: c63 :: c64 :: c65 :: c66 :: c67 :: c68 :: c69 :: c70 :: c71 :: c72 :: c73 :: c74 :: c75 :: c76 :: c77 :: c78 :: c79 :: c80 :: c81 :: c82 :: c83 :: c84 :: c85 :: c86 :: c87 :: c88 :: c89 :: c90 :: c91 :: c92 :: c93 :: c94 :: c95 :: c96 :: c97 :: c98 :: c99 :: c100 :: c101 :: c102 :: c103 :: c104 :: c105 :: c106 :: c107 :: c108 :: c109 :: c110 :: c111 :: c112 :: c113 :: c114 :: c115 :: c116 :: c117 :: c118 :: c119 :: c120 :: c121 :: c122 :: c123 :: c124 :: c125 :: c126 :: c127 :: c128 :: c129 :: c130 :: c131 :: c132 :: c133 :: c134 :: c135 :: c136 :: u137 :: u138 :: u139 :: u140 :: u141 :: u142 :: u143 :: u144 :: u145 :: u146 :: u147 :: u148 :: u149 :: u150 :: u151 :: u152 :: u153 :: u154 :: u155 :: c156 :: c157 :: c158 :: c159 :: c160 :: c161 :: c162 :: c163 :: c164 :: c165 :: c166 :: c167 :: c168 :: c169 :: c170 :: c171 :: c172 :: c173 :: c174 :: c175 :: c176 :: c177 :: c178 :: c179 :: c180 :: c181 :: c182 :: c183 :: c184 :: c185 :: c186 :: c187 :: c188 :: c189 :: c190 :: c191 :: c192 :: c193 :: c194 :: c195 :: c196 :: c197 :: c198 :: c199 :: c200 :: c201 :: c202 :: c203 :: c204 :: c205 :: c206 :: c207 :: c208 :: c209 :: c210 :: c211 :: c212 :: c213 :: c214 :: c215 :: c216 :: c217 :: c218 :: c219 :: c220 :: c221 :: c222 :: c223 :: c224 :: c225 :: c226 :: c227 :: c228 :: c229 :: c230 :: c231 :: c232 :: c233 :: c234 :: c235 :: c236 :: c237 :: c238 :: c239 :: c240 :: c241 :: c242 :: c243 :: c244 :: c245 :: c246 :: c247 :: c248 :: c249 :: c250 :: c251 :: c252 :: c253 :: c254 :: c255 :: c256 :: c257 :: c258 :: c259 :: c260 :: c261 :: c262 :: c263 :: c264 :: c265 :: c266 :: c267 :: c268 :: c269 :: c270 :: c271 :: c272 :: c273 :: c274 :: c275 :: c276 :: c277 :: c278 :: c279 :: c280 :: c281 :: c282 :: c283 :: c284 :: c285 :: c286 :: c287 :: c288 :: c289 :: c290 :: c291 :: c292 :: c293 :: c294 :: c295 :: c296 :: c297 :: c298 :: c299 :: c300 :: c301 :: c302 :: c303 :: c304 :: c305 :: c306 :: c307 :: c308 :: c309 :: c310 :: c311 :: c312 :: c313 :: c314 :: c315 :: c316 :: c317 :: c318 :: c319 :: c320 :: c321 :: c322 :: c323 :: c324 :: c325 :: c326 :: c327 :: c328 :: c329 :: c330 :: c331 :: c332 :: c333 :: c334 :: c335 :: c336 :: c337 :: c338 :: c339 :: c340 :: c341 :: c342 :: c343 :: c344 :: c345 :: c346 :: c347 :: c348 :: c349 :: c350 :: c351 :: c352 :: c353 :: c354 :: c355 :: c356 :: c357 :: c358 :: c359 :: c360 :: c361 :: c362 :: c363 :: c364 :: c365 :: c366 :: c367 :: c368 :: c369 :: c370 :: c371 :: c372 :: c373 :: c374 :: c375 :: c376 :: c377 :: c378 :: c379 :: c380 :: c381 :: c382 :: c383 :: c384 :: c385 :: c386 :: c387 :: c388 :: c389 :: c390 :: c391 :: c392 :: c393 :: c394 :: c395 :: c396 :: c397 :: c398 :: c399 :: c400 :: c401 :: c402 :: c403 :: c404 :: c405 :: c406 :: c407 :: c408 :: c409 :: c410 :: c411 :: c412 :: c413 :: c414 :: c415 :: c416 :: c417 :: c418 :: c419 :: c420 :: c421 :: c422 :: c423 :: c424 :: c425 :: c426 :: c427 :: c428 :: c429 :: c430 :: c431 :: c432 :: c433 :: c434 :: c435 :: c436 :: c437 :: c438 :: c439 :: c440 :: c441 :: c442 :: c443 :: c444 :: c445 :: c446 :: c447 :: c448 :: c449 :: c450 :: c451 :: c452 :: c453 :: c454 :: c455 :: c456 :: c457 :: c458 :: c459 :: c460 :: c461 :: c462 :: c463 :: c464 :: c465 :: c466 :: c467 :: c468 :: c469 :: c470 :: c471 :: c472 :: c473 :: c474 :: c475 :: c476 :: c477 :: c478 :: c479 :: c480 :: c481 :: c482 :: []), []⟩ wx)) :
    Code.wp Tryd.prog (Code.loop loop3b) Q ⟨List.toArray (.int .i64 id :: c1 :: c2 :: c3 :: .slice fo NN fc :: .slice po NN pc :: c6 :: c7 :: c8 :: c9 :: c10 :: c11 :: c12 :: c13 :: c14 :: .slice (some ⟨bm, 0, none⟩) NN NN :: .int .i64 0 :: c17 :: c18 :: c19 :: c20 :: c21 :: c22 :: c23 :: c24 :: c25 :: c26 :: c27 :: c28 :: c29 :: c30 :: c31 :: c32 :: c33 :: c34 :: c35 :: c36 :: c37 :: c38 :: c39 :: c40 :: c41 :: c42 :: c43 :: c44 :: c45 :: c46 :: c47 :: c48 :: c49 :: c50 :: c51 :: c52 :: c53 :: c54 :: c55 :: c56 :: c57 :: c58 :: c59 :: c60 :: c61 :: c62 :: c63 :: c64 :: c65 :: c66 :: c67 :: c68 :: c69 :: c70 :: c71 :: c72 :: c73 :: c74 :: c75 :: c76 :: c77 :: c78 :: c79 :: c80 :: c81 :: c82 :: c83 :: c84 :: c85 :: c86 :: c87 :: c88 :: c89 :: c90 :: c91 :: c92 :: c93 :: c94 :: c95 :: c96 :: c97 :: c98 :: c99 :: c100 :: c101 :: c102 :: c103 :: c104 :: c105 :: c106 :: c107 :: c108 :: c109 :: c110 :: c111 :: c112 :: c113 :: c114 :: c115 :: c116 :: c117 :: c118 :: c119 :: c120 :: c121 :: c122 :: c123 :: c124 :: c125 :: c126 :: c127 :: c128 :: c129 :: c130 :: c131 :: c132 :: c133 :: c134 :: c135 :: c136 :: c137 :: c138 :: c139 :: c140 :: c141 :: c142 :: c143 :: c144 :: c145 :: c146 :: c147 :: c148 :: c149 :: c150 :: c151 :: c152 :: c153 :: c154 :: c155 :: c156 :: c157 :: c158 :: c159 :: c160 :: c161 :: c162 :: c163 :: c164 :: c165 :: c166 :: c167 :: c168 :: c169 :: c170 :: c171 :: c172 :: c173 :: c174 :: c175 :: c176 :: c177 :: c178 :: c179 :: c180 :: c181 :: c182 :: c183 :: c184 :: c185 :: c186 :: c187 :: c188 :: c189 :: c190 :: c191 :: c192 :: c193 :: c194 :: c195 :: c196 :: c197 :: c198 :: c199 :: c200 :: c201 :: c202 :: c203 :: c204 :: c205 :: c206 :: c207 :: c208 :: c209 :: c210 :: c211 :: c212 :: c213 :: c214 :: c215 :: c216 :: c217 :: c218 :: c219 :: c220 :: c221 :: c222 :: c223 :: c224 :: c225 :: c226 :: c227 :: c228 :: c229 :: c230 :: c231 :: c232 :: c233 :: c234 :: c235 :: c236 :: c237 :: c238 :: c239 :: c240 :: c241 :: c242 :: c243 :: c244 :: c245 :: c246 :: c247 :: c248 :: c249 :: c250 :: c251 :: c252 :: c253 :: c254 :: c255 :: c256 :: c257 :: c258 :: c259 :: c260 :: c261 :: c262 :: c263 :: c264 :: c265 :: c266 :: c267 :: c268 :: c269 :: c270 :: c271 :: c272 :: c273 :: c274 :: c275 :: c276 :: c277 :: c278 :: c279 :: c280 :: c281 :: c282 :: c283 :: c284 :: c285 :: c286 :: c287 :: c288 :: c289 :: c290 :: c291 :: c292 :: c293 :: c294 :: c295 :: c296 :: c297 :: c298 :: c299 :: c300 :: c301 :: c302 :: c303 :: c304 :: c305 :: c306 :: c307 :: c308 :: c309 :: c310 :: c311 :: c312 :: c313 :: c314 :: c315 :: c316 :: c317 :: c318 :: c319 :: c320 :: c321 :: c322 :: c323 :: c324 :: c325 :: c326 :: c327 :: c328 :: c329 :: c330 :: c331 :: c332 :: c333 :: c334 :: c335 :: c336 :: c337 :: c338 :: c339 :: c340 :: c341 :: c342 :: c343 :: c344 :: c345 :: c346 :: c347 :: c348 :: c349 :: c350 :: c351 :: c352 :: c353 :: c354 :: c355 :: c356 :: c357 :: c358 :: c359 :: c360 :: c361 :: c362 :: c363 :: c364 :: c365 :: c366 :: c367 :: c368 :: c369 :: c370 :: c371 :: c372 :: c373 :: c374 :: c375 :: c376 :: c377 :: c378 :: c379 :: c380 :: c381 :: c382 :: c383 :: c384 :: c385 :: c386 :: c387 :: c388 :: c389 :: c390 :: c391 :: c392 :: c393 :: c394 :: c395 :: c396 :: c397 :: c398 :: c399 :: c400 :: c401 :: c402 :: c403 :: c404 :: c405 :: c406 :: c407 :: c408 :: c409 :: c410 :: c411 :: c412 :: c413 :: c414 :: c415 :: c416 :: c417 :: c418 :: c419 :: c420 :: c421 :: c422 :: c423 :: c424 :: c425 :: c426 :: c427 :: c428 :: c429 :: c430 :: c431 :: c432 :: c433 :: c434 :: c435 :: c436 :: c437 :: c438 :: c439 :: c440 :: c441 :: c442 :: c443 :: c444 :: c445 :: c446 :: c447 :: c448 :: c449 :: c450 :: c451 :: c452 :: c453 :: c454 :: c455 :: c456 :: c457 :: c458 :: c459 :: c460 :: c461 :: c462 :: c463 :: c464 :: c465 :: c466 :: c467 :: c468 :: c469 :: c470 :: c471 :: c472 :: c473 :: c474 :: c475 :: c476 :: c477 :: c478 :: c479 :: c480 :: c481 :: c482 :: []), []⟩ w := by
  refine wp_mono (Q := OnExit 2 (Q (.exit 2))) ?_ onExit_to
  conv => arg 2; arg 1; whnf
  go_loopw [16] (fun x wr => ∃ h : Nat, h ≤ NN ∧ x = .int .i64 h ∧ Hid (LI w0 wr bm NN ms h)) (fun x _ => NN - (intOf x).toNat)
  case atStart => exact ⟨0, by omega, rfl, HM⟩
  case round =>
    obtain ⟨i, hi, rfl, HI⟩ := hrel
    by_cases hlt : i < NN
    · have hil : i < ms.length := by rw [HIN.out.len]; exact hlt
      have HIW := HIN.out.below HI.out.2.1
      obtain ⟨fg, fo', rfl, fB, cf⟩ := HIW.f i hil
      obtain ⟨pg, po', rfl, pB, cp⟩ := HIW.p i hil
      obtain ⟨m, hm⟩ : ∃ m, m = ms[i] := ⟨_, rfl⟩
      have hmt := HT.out i hil
      rw [← hm] at cf cp hmt
      have hgd : ms.getD i dm = m := by rw [hm]; simp [List.getD, hil]
      have c0 := (HI.out.1.cell (i * 3)).trans (mA_get ms NN i (i * 3) (by omega))
      have c1 := (HI.out.1.cell (i * 3 + 1)).trans (mA_get ms NN i (i * 3 + 1) (by omega))
      have c2 := (HI.out.1.cell (i * 3 + 2)).trans (mA_get ms NN i (i * 3 + 2) (by omega))
      have f0 := HI.out.1.frozen (i * 3)
      have f1 := HI.out.1.frozen (i * 3 + 1)
      have f2 := HI.out.1.frozen (i * 3 + 2)
      obtain ⟨mf, mt, mp, ml⟩ := m
      have hbs := (HIN.out.b i hil).1
      rw [← hm] at hbs
      simp only at cf cp hmt hbs
      obtain ⟨ao, vn, vc, rfl, -⟩ := hbs.slice
      subst hmt
      have HGD := hideIt hgd
      clear hbs hm HIW hgd
      obtain ⟨W2, hW2⟩ : ∃ W2, W2 = (((wr.setCell ⟨bm, i * 3, none⟩ (.int .i64 mf)).setCell ⟨bm, i * 3 + 1, none⟩ (.int .i64 id)).setCell ⟨bm, i * 3 + 2, none⟩ (.slice ao vn vc)).drew := ⟨_, rfl⟩
      have FIN : Hid (LI w0 W2 bm NN ms (i + 1)) := by
        have b := ((HI.out.1.set (i * 3) (.int .i64 mf)).set (i * 3 + 1) (.int .i64 id)).set (i * 3 + 2) (.slice ao vn vc)
        have e := mA_set ms NN i ⟨mf, id, .slice ao vn vc, ml⟩ hlt HGD.out
        simp only at e
        rw [e] at b
        have kk : Keeps [bm] wr (((wr.setCell ⟨bm, i * 3, none⟩ (.int .i64 mf)).setCell ⟨bm, i * 3 + 1, none⟩ (.int .i64 id)).setCell ⟨bm, i * 3 + 2, none⟩ (.slice ao vn vc)).drew := ((((Keeps.refl [bm] wr).setCell (by simp) _).setCell (by simp) _).setCell (by simp) _).drew
        rw [hW2]
        exact ⟨b, HI.out.2.1.trans (kk.below (Nat.le_trans HB.out HI.out.2.1.size) (by simp)), Nat.lt_of_lt_of_le HI.out.2.2 kk.size⟩
      have HW2 := hideIt hW2
      clear hW2
      go_wp2_with fail
      go_region_with (fail)
      all_goals
        rw [← HW2.out]
        go_wp2_with fail
        go_roundw
        case rel => exact ⟨i + 1, by omega, by go_num, FIN⟩
        case measure => simp [intOf]; omega
    · obtain rfl : i = NN := by omega
      go_wp2_with fail
      exact ⟨rfl, HQ.out _ _ _ _ _ _ _ _ _ _ _ _ _ _ _ _ _ _ _ _ _ HI⟩
end Go.Proofs.Qxb6613198aDoor
