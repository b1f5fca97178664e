import Derived.Test.Qxb6613198aDoorPloop
import Derived.Test.Qxb6613198aDoorTloop
import Derived.Test.Qxb6613198aDoorGath3
namespace Go.Proofs.Qxb6613198aDoor
open Go.ChangeShapes Go.WideShapes Go.ChangeAt Go.RowKit
open Plain
set_option linter.unusedVariables false
set_option linter.unusedSimpArgs false
noncomputable def loop3d : Code := (loopsOf (Tryd.f3.body.getD .skip)).getD 3 .skip

/-- The law's messages as they are handed in. -/
structure Inp (B : Nat) (w : World) (fo po : Option Addr) (NN : Nat) (ms : List Msg) : Prop where
  len : ms.length = NN
  f : ∀ i (hi : i < ms.length), ∃ g o, fo = some ⟨g, o, none⟩ ∧ g < B ∧ w.cell? ⟨g, o + i, none⟩ = some (.int .i64 ms[i].f)
  p : ∀ i (hi : i < ms.length), ∃ g o, po = some ⟨g, o, none⟩ ∧ g < B ∧ w.cell? ⟨g, o + i, none⟩ = some ms[i].pv
  b : ∀ i (hi : i < ms.length), BytB B w ms[i].pv ms[i].l ∧ ms[i].l.length ≤ 1048576
theorem Inp.below {B : Nat} {w w' : World} {fo po : Option Addr} {NN : Nat} {ms : List Msg} (h : Inp B w fo po NN ms) (hb : Below B w w') : Inp B w' fo po NN ms :=
  ⟨h.len, fun i hi => by obtain ⟨g, o, h1, h2, h3⟩ := h.f i hi; exact ⟨g, o, h1, h2, by rw [hb.cell h2]; exact h3⟩, fun i hi => by obtain ⟨g, o, h1, h2, h3⟩ := h.p i hi; exact ⟨g, o, h1, h2, by rw [hb.cell h2]; exact h3⟩, fun i hi => ⟨(h.b i hi).1.below hb, (h.b i hi).2⟩⟩

structure MI (w0 wx : World) (B bk bi bs bc bx bn n : Nat) (s0 : PS) (ms : List Msg) (i : Nat) (s : PS) : Prop where
  eq : s = foldM n s0 (ms.take i)
  low : Low s.L n
  md : ∃ C X N, Md w0 wx B bk bi bs bc bx bn n (KOf s.L) s.I s.S C X N

theorem MI.next {w0 wx wy : World} {B bk bi bs bc bx bn n : Nat} {s0 : PS} {ms : List Msg} {i : Nat} {s : PS} (h : MI w0 wx B bk bi bs bc bx bn n s0 ms i s) (hi : i < ms.length) {f : Int} {l : List UInt8} (hf : f = ms[i].f) (hl : l = ms[i].l) {s' : PS} (hs : stepM n s f l = s') (hm : ∃ C X N, Md w0 wy B bk bi bs bc bx bn n (KOf s'.L) s'.I s'.S C X N) : MI w0 wy B bk bi bs bc bx bn n s0 ms (i + 1) s' := by
  subst hs
  refine ⟨?_, h.low.step f l, hm⟩
  rw [foldM_take n s0 ms i hi, ← h.eq, hf, hl]

set_option maxHeartbeats 8000000 in
set_option maxRecDepth 100000 in
theorem model_loop (w0 w : World) (B bk bi bs bc bx bn n NN fc pc : Nat) (fo po : Option Addr) (s0 : PS) (ms : List Msg) (c0 c2 c3 c6 c7 c8 c9 c10 c11 c12 c13 c14 c15 c16 c17 c24 c27 c28 c29 c30 c31 c32 c33 c34 c35 c36 c37 c38 c39 c40 c41 c42 c43 c44 c45 c46 c47 c48 c49 c50 c51 c52 c53 c54 c55 c56 c57 c58 c59 c60 c61 c62 c63 c64 c65 c66 c67 c68 c69 c70 c71 c72 c73 c74 c75 c76 c77 c78 c79 c80 c81 c82 c83 c84 c85 c86 c87 c88 c89 c90 c91 c92 c93 c94 c95 c96 c97 c98 c99 c100 c101 c102 c103 c104 c105 c106 c107 c108 c109 c110 c111 c112 c113 c114 c115 c116 c117 c118 c119 c120 c121 c122 c123 c124 c125 c126 c127 c128 c129 c130 c131 c132 c133 c134 c135 c136 c137 c138 c139 c140 c141 c142 c143 c144 c145 c146 c147 c148 c149 c150 c151 c152 c153 c154 c155 c156 c157 c158 c159 c160 c161 c162 c163 c164 c165 c166 c167 c168 c169 c170 c171 c172 c173 c174 c175 c176 c177 c178 c179 c180 c181 c182 c183 c184 c185 c186 c187 c188 c189 c190 c191 c192 c193 c194 c195 c196 c197 c198 c199 c200 c201 c202 c203 c204 c205 c206 c207 c208 c209 c210 c211 c212 c213 c214 c215 c216 c217 c218 c219 c220 c221 c222 c223 c224 c225 c226 c227 c228 c229 c230 c231 c232 c233 c234 c235 c236 c237 c238 c239 c240 c241 c242 c243 c244 c245 c246 c247 c248 c249 c250 c251 c252 c253 c254 c255 c256 c257 c258 c259 c260 c261 c262 c263 c264 c265 c266 c267 c268 c269 c270 c271 c272 c273 c274 c275 c276 c277 c278 c279 c280 c281 c282 c283 c284 c285 c286 c287 c288 c289 c290 c291 c292 c293 c294 c295 c296 c297 c298 c299 c300 c301 c302 c303 c304 c305 c306 c307 c308 c309 c310 c311 c312 c313 c314 c315 c316 c317 c318 c319 c320 c321 c322 c323 c324 c325 c326 c327 c328 c329 c330 c331 c332 c333 c334 c335 c336 c337 c338 c339 c340 c341 c342 c343 c344 c345 c346 c347 c348 c349 c350 c351 c352 c353 c354 c355 c356 c357 c358 c359 c360 c361 c362 c363 c364 c365 c366 c367 c368 c369 c370 c371 c372 c373 c374 c375 c376 c377 c378 c379 c380 c381 c382 c383 c384 c385 c386 c387 c388 c389 c390 c391 c392 c393 c394 c395 c396 c397 c398 c399 c400 c401 c402 c403 c404 c405 c406 c407 c408 c409 c410 c411 c412 c413 c414 c415 c416 c417 c418 c419 c420 c421 c422 c423 c424 c425 c426 c427 c428 c429 c430 c431 c432 c433 c434 c435 c436 c437 c438 c439 c440 c441 c442 c443 c444 c445 c446 c447 c448 c449 c450 c451 c452 c453 c454 c455 c456 c457 c458 c459 c460 c461 c462 c463 c464 c465 c466 c467 c468 c469 c470 c471 c472 c473 c474 c475 c476 c477 c478 c479 c480 c481 c482 : Value) (Q : Exit → Act → World → Prop)
    (HM : Hid (MI w0 w B bk bi bs bc bx bn n s0 ms 0 s0)) (HA : Hid (Ap6 B bk bi bs bc bx bn)) (HB : Hid (B ≤ w0.heap.size)) (h1 : 1 ≤ n) (hn : n ≤ 64) (hN : NN ≤ 65536) (HIN : Hid (Inp B w0 fo po NN ms))
    (HQ : Hid (∀ (u26 u27 u28 u29 u30 u31 u32 u33 u34 u35 u36 u37 u38 u39 u40 u41 u42 u43 u193 u194 u195 u196 u197 u198 u199 u200 u201 u202 u203 u204 u205 u206 u207 u208 u209 u210 u211 u212 u213 u214 u215 u216 u217 u218 u219 u220 u221 u222 u223 u224 u225 u226 u227 u228 u229 u230 u231 u232 u233 u234 u235 u236 u237 u238 u239 u240 u241 u242 u243 u244 u245 u246 u247 u248 u249 u250 u251 u252 u253 u254 u255 u256 u257 u258 u259 u260 u261 u262 u263 u264 u265 u266 u267 u268 u269 u270 u271 u272 u273 u274 u275 u276 u277 u278 u279 u280 u281 u282 u283 u284 u285 u286 u287 u288 u289 u290 u291 u292 u293 u294 u295 u296 u297 u298 u299 u300 u301 u302 u303 u304 u305 u306 u307 u308 u309 u310 u311 u312 u313 u314 u315 u316 u317 u318 u319 u320 u321 u322 u323 u324 u325 u326 u327 u328 u329 u330 u331 u332 u333 u334 u335 u336 u337 u338 u339 u340 u341 u342 u343 u344 u345 u346 u347 u348 u349 u350 u351 u352 u353 u354 u355 u356 u357 u358 u359 u360 u361 u362 u363 u364 u365 u366 u367 u368 u369 u370 : Value) (wx : World), Hid (MI w0 wx B bk bi bs bc bx bn n s0 ms NN (foldM n s0 ms)) → Q (.exit 6) ⟨List.toArray (c0 :: .int .i64 n :: c2 :: c3 :: .slice fo NN fc :: .slice po NN pc :: c6 :: c7 :: c8 :: c9 :: c10 :: c11 :: c12 :: c13 :: c14 :: c15 :: c16 :: c17 :: .slice (some ⟨bk, 0, none⟩) n n :: .slice (some ⟨bi, 0, none⟩) n n :: .slice (some ⟨bs, 0, none⟩) n n :: .slice (some ⟨bc, 0, none⟩) n n :: .slice (some ⟨bx, 0, none⟩) n n :: .slice (some ⟨bn, 0, none⟩) n n :: c24 :: .int .u64 (foldM n s0 ms).H :: u26 :: u27 :: u28 :: u29 :: u30 :: u31 :: u32 :: u33 :: u34 :: u35 :: u36 :: u37 :: u38 :: u39 :: u40 :: u41 :: u42 :: u43 :: c44 :: c45 :: c46 :: c47 :: c48 :: c49 :: c50 :: c51 :: c52 :: c53 :: c54 :: c55 :: c56 :: c57 :: c58 :: c59 :: c60 :: c61 :: c62 :: c63 :: c64 :: c65 :: c66 :: c67 :: c68 :: c69 :: c70 :: c71 :: c72 :: c73 :: c74 :: c75 :: c76 :: c77 :: c78 :: c79 :: c80 :: c81 :: c82 :: c83 :: c84 :: c85 :: c86 :: c87 :: c88 :: c89 :: c90 :: c91 :: c92 :: c93 :: c94 :: c95 :: c96 :: c97 :: c98 :: c99 :: c100 :: c101 :: c102 :: c103 :: c104 :: c105 :: c106 :: c107 :: c108 :: c109 :: c110 :: c111 :: c112 :: c113 :: c114 :: c115 :: c116 :: c117 :: c118 :: c119 :: c120 :: c121 :: c122 :: c123 :: c124 :: c125 :: c126 :: c127 :: c128 :: c129 :: c130 :: c131 :: c132 :: c133 :: c134 :: c135 :: c136 :: c137 :: c138 :: c139 :: c140 :: c141 :: c142 :: c143 :: c144 :: c145 :: c146 :: c147 :: c148 :: c149 :: c150 :: c151 :: c152 :: c153 :: c154 :: c155 :: c156 :: c157 :: c158 :: c159 :: c160 :: c161 :: c162 :: c163 :: c164 :: c165 :: c166 :: c167 :: c168 :: c169 :: c170 :: c171 :: c172 :: c173 :: c174 :: c175 :: c176 :: c177 :: c178 :: c179 :: c180 :: c181 :: c182 :: c183 :: c184 :: c185 :: c186 :: c187 :: c188 :: c189 :: c190 :: c191 :: c192 :: u193 :: u194 :: u195 :: u196 :: u197 :: u198 :: u199 :: u200 :: u201 :: u202 :: u203 :: u204 :: u205 :: u206 :: u207 :: u208 :: u209 :: u210 :: u211 :: u212 :: u213 :: u214 :: u215 :: u216 :: u217 :: u218 :: u219 :: u220 :: u221 :: u222 :: u223 :: u224 :: u225 :: u226 :: u227 :: u228 :: u229 :: u230 :: u231 :: u232 :: u233 :: u234 :: u235 :: u236 :: u237 :: u238 :: u239 :: u240 :: u241 :: u242 :: u243 :: u244 :: u245 :: u246 :: u247 :: u248 :: u249 :: u250 :: u251 :: u252 :: u253 :: u254 :: u255 :: u256 :: u257 :: u258 :: u259 :: u260 :: u261 :: u262 :: u263 :: u264 :: u265 :: u266 :: u267 :: u268 :: u269 :: u270 :: u271 :: u272 :: u273 :: u274 :: u275 :: u276 :: u277 :: u278 :: u279 :: u280 :: u281 :: u282 :: u283 :: u284 :: u285 :: u286 :: u287 :: u288 :: u289 :: u290 :: u291 :: u292 :: u293 :: u294 :: u295 :: u296 :: u297 :: u298 :: u299 :: u300 :: u301 :: u302 :: u303 :: u304 :: u305 :: u306 :: u307 :: u308 :: u309 :: u310 :: u311 :: u312 :: u313 :: u314 :: u315 :: u316 :: u317 :: u318 :: u319 :: u320 :: u321 :: u322 :: u323 :: u324 :: u325 :: u326 :: u327 :: u328 :: u329 :: u330 :: u331 :: u332 :: u333 :: u334 :: u335 :: u336 :: u337 :: u338 :: u339 :: u340 :: u341 :: u342 :: u343 :: u344 :: u345 :: u346 :: u347 :: u348 :: u349 :: u350 :: u351 :: u352 :: u353 :: u354 :: u355 :: u356 :: u357 :: u358 :: u359 :: u360 :: u361 :: u362 :: u363 :: u364 :: u365 :: u366 :: u367 :: u368 :: u369 :: u370 :: c371 :: c372 :: c373 :: c374 :: c375 :: c376 :: c377 :: c378 :: c379 :: c380 :: c381 :: c382 :: c383 :: c384 :: c385 :: c386 :: c387 :: c388 :: c389 :: c390 :: c391 :: c392 :: c393 :: c394 :: c395 :: c396 :: c397 :: c398 :: c399 :: c400 :: c401 :: c402 :: c403 :: c404 :: c405 :: c406 :: c407 :: c408 :: c409 :: c410 :: c411 :: c412 :: c413 :: c414 :: c415 :: c416 :: c417 :: c418 :: c419 :: c420 :: c421 :: c422 :: c423 :: c424 :: c425 :: c426 :: c427 :: c428 :: c429 :: c430 :: c431 :: c432 :: c433 :: c434 :: c435 :: c436 :: c437 :: c438 :: c439 :: c440 :: c441 :: c442 :: c443 :: c444 :: c445 :: c446 :: c447 :: c448 :: c449 :: c450 :: c451 :: c452 :: c453 :: c454 :: c455 :: c456 :: c457 :: c458 :: c459 :: c460 :: c461 :: c462 :: c463 :: c464 :: c465 :: c466 :: c467 :: c468 :: c469 :: c470 :: c471 :: c472 :: c473 :: c474 :: c475 :: c476 :: c477 :: c478 :: c479 :: c480 :: c481 :: c482 :: []), []⟩ wx)) :
    Code.wp Tryd.prog (Code.loop loop3d) Q ⟨List.toArray (c0 :: .int .i64 n :: c2 :: c3 :: .slice fo NN fc :: .slice po NN pc :: c6 :: c7 :: c8 :: c9 :: c10 :: c11 :: c12 :: c13 :: c14 :: c15 :: c16 :: c17 :: .slice (some ⟨bk, 0, none⟩) n n :: .slice (some ⟨bi, 0, none⟩) n n :: .slice (some ⟨bs, 0, none⟩) n n :: .slice (some ⟨bc, 0, none⟩) n n :: .slice (some ⟨bx, 0, none⟩) n n :: .slice (some ⟨bn, 0, none⟩) n n :: c24 :: .int .u64 s0.H :: .int .i64 0 :: c27 :: c28 :: c29 :: c30 :: c31 :: c32 :: c33 :: c34 :: c35 :: c36 :: c37 :: c38 :: c39 :: c40 :: c41 :: c42 :: c43 :: c44 :: c45 :: c46 :: c47 :: c48 :: c49 :: c50 :: c51 :: c52 :: c53 :: c54 :: c55 :: c56 :: c57 :: c58 :: c59 :: c60 :: c61 :: c62 :: c63 :: c64 :: c65 :: c66 :: c67 :: c68 :: c69 :: c70 :: c71 :: c72 :: c73 :: c74 :: c75 :: c76 :: c77 :: c78 :: c79 :: c80 :: c81 :: c82 :: c83 :: c84 :: c85 :: c86 :: c87 :: c88 :: c89 :: c90 :: c91 :: c92 :: c93 :: c94 :: c95 :: c96 :: c97 :: c98 :: c99 :: c100 :: c101 :: c102 :: c103 :: c104 :: c105 :: c106 :: c107 :: c108 :: c109 :: c110 :: c111 :: c112 :: c113 :: c114 :: c115 :: c116 :: c117 :: c118 :: c119 :: c120 :: c121 :: c122 :: c123 :: c124 :: c125 :: c126 :: c127 :: c128 :: c129 :: c130 :: c131 :: c132 :: c133 :: c134 :: c135 :: c136 :: c137 :: c138 :: c139 :: c140 :: c141 :: c142 :: c143 :: c144 :: c145 :: c146 :: c147 :: c148 :: c149 :: c150 :: c151 :: c152 :: c153 :: c154 :: c155 :: c156 :: c157 :: c158 :: c159 :: c160 :: c161 :: c162 :: c163 :: c164 :: c165 :: c166 :: c167 :: c168 :: c169 :: c170 :: c171 :: c172 :: c173 :: c174 :: c175 :: c176 :: c177 :: c178 :: c179 :: c180 :: c181 :: c182 :: c183 :: c184 :: c185 :: c186 :: c187 :: c188 :: c189 :: c190 :: c191 :: c192 :: c193 :: c194 :: c195 :: c196 :: c197 :: c198 :: c199 :: c200 :: c201 :: c202 :: c203 :: c204 :: c205 :: c206 :: c207 :: c208 :: c209 :: c210 :: c211 :: c212 :: c213 :: c214 :: c215 :: c216 :: c217 :: c218 :: c219 :: c220 :: c221 :: c222 :: c223 :: c224 :: c225 :: c226 :: c227 :: c228 :: c229 :: c230 :: c231 :: c232 :: c233 :: c234 :: c235 :: c236 :: c237 :: c238 :: c239 :: c240 :: c241 :: c242 :: c243 :: c244 :: c245 :: c246 :: c247 :: c248 :: c249 :: c250 :: c251 :: c252 :: c253 :: c254 :: c255 :: c256 :: c257 :: c258 :: c259 :: c260 :: c261 :: c262 :: c263 :: c264 :: c265 :: c266 :: c267 :: c268 :: c269 :: c270 :: c271 :: c272 :: c273 :: c274 :: c275 :: c276 :: c277 :: c278 :: c279 :: c280 :: c281 :: c282 :: c283 :: c284 :: c285 :: c286 :: c287 :: c288 :: c289 :: c290 :: c291 :: c292 :: c293 :: c294 :: c295 :: c296 :: c297 :: c298 :: c299 :: c300 :: c301 :: c302 :: c303 :: c304 :: c305 :: c306 :: c307 :: c308 :: c309 :: c310 :: c311 :: c312 :: c313 :: c314 :: c315 :: c316 :: c317 :: c318 :: c319 :: c320 :: c321 :: c322 :: c323 :: c324 :: c325 :: c326 :: c327 :: c328 :: c329 :: c330 :: c331 :: c332 :: c333 :: c334 :: c335 :: c336 :: c337 :: c338 :: c339 :: c340 :: c341 :: c342 :: c343 :: c344 :: c345 :: c346 :: c347 :: c348 :: c349 :: c350 :: c351 :: c352 :: c353 :: c354 :: c355 :: c356 :: c357 :: c358 :: c359 :: c360 :: c361 :: c362 :: c363 :: c364 :: c365 :: c366 :: c367 :: c368 :: c369 :: c370 :: c371 :: c372 :: c373 :: c374 :: c375 :: c376 :: c377 :: c378 :: c379 :: c380 :: c381 :: c382 :: c383 :: c384 :: c385 :: c386 :: c387 :: c388 :: c389 :: c390 :: c391 :: c392 :: c393 :: c394 :: c395 :: c396 :: c397 :: c398 :: c399 :: c400 :: c401 :: c402 :: c403 :: c404 :: c405 :: c406 :: c407 :: c408 :: c409 :: c410 :: c411 :: c412 :: c413 :: c414 :: c415 :: c416 :: c417 :: c418 :: c419 :: c420 :: c421 :: c422 :: c423 :: c424 :: c425 :: c426 :: c427 :: c428 :: c429 :: c430 :: c431 :: c432 :: c433 :: c434 :: c435 :: c436 :: c437 :: c438 :: c439 :: c440 :: c441 :: c442 :: c443 :: c444 :: c445 :: c446 :: c447 :: c448 :: c449 :: c450 :: c451 :: c452 :: c453 :: c454 :: c455 :: c456 :: c457 :: c458 :: c459 :: c460 :: c461 :: c462 :: c463 :: c464 :: c465 :: c466 :: c467 :: c468 :: c469 :: c470 :: c471 :: c472 :: c473 :: c474 :: c475 :: c476 :: c477 :: c478 :: c479 :: c480 :: c481 :: c482 :: []), []⟩ w := by
  refine wp_mono (Q := OnExit 6 (Q (.exit 6))) ?_ onExit_to
  conv => arg 2; arg 1; whnf
  go_loopw [25, 26] (fun hd x wr => ∃ i : Nat, ∃ s : PS, i ≤ NN ∧ x = .int .i64 i ∧ hd = .int .u64 s.H ∧ Hid (MI w0 wr B bk bi bs bc bx bn n s0 ms i s)) (fun _ x _ => NN - (intOf x).toNat)
  case atStart => exact ⟨0, s0, by omega, rfl, rfl, HM⟩
  case round =>
    obtain ⟨i, s, hi, rfl, rfl, HI⟩ := hrel
    by_cases hlt : i < NN
    · have hil : i < ms.length := by rw [HIN.out.len]; exact hlt
      obtain ⟨C, X, N, hmd⟩ := HI.out.md
      have HIW := HIN.out.below hmd.b
      obtain ⟨fg, fo', rfl, fB, cf⟩ := HIW.f i hil
      obtain ⟨pg, po', rfl, pB, cp⟩ := HIW.p i hil
      have hb := HIN.out.b i hil
      obtain ⟨f, hf⟩ : ∃ f, f = ms[i].f := ⟨_, rfl⟩
      obtain ⟨pv, hpv⟩ : ∃ pv, pv = ms[i].pv := ⟨_, rfl⟩
      obtain ⟨l, hl⟩ : ∃ l, l = ms[i].l := ⟨_, rfl⟩
      rw [← hf] at cf
      rw [← hpv] at cp hb
      rw [← hl] at hb
      have HF := hideIt (And.intro hf hl)
      obtain ⟨ao, vn, vc, rfl, hvn⟩ := hb.1.slice
      have HBB := hideIt hb
      have HVN := hideIt hvn
      clear hvn
      have HMD := hideIt hmd
      clear hf hpv hl hb hmd HIW
      by_cases hr : 0 ≤ f ∧ f < n
      · obtain ⟨fr, rfl⟩ := Int.eq_ofNat_of_zero_le hr.1
        have hfr : fr < n := by omega
        clear hr
        go_wp2_with fail
        refine parse_loop w0 wr B bk bi bs bc bx bn n (KOf s.L) s.I s.S C X N ao vn vc l _ _ _ _ _ _ _ _ _ _ _ _ _ _ _ _ _ _ _ _ _ _ _ _ _ _ _ _ _ _ _ _ _ _ _ _ _ _ _ _ _ _ _ _ _ _ _ _ _ _ _ _ _ _ _ _ _ _ _ _ _ _ _ _ _ _ _ _ _ _ _ _ _ _ _ _ _ _ _ _ _ _ _ _ _ _ _ _ _ _ _ _ _ _ _ _ _ _ _ _ _ _ _ _ _ _ _ _ _ _ _ _ _ _ _ _ _ _ _ _ _ _ _ _ _ _ _ _ _ _ _ _ _ _ _ _ _ _ _ _ _ _ _ _ _ _ _ _ _ _ _ _ _ _ _ _ _ _ _ _ _ _ _ _ _ _ _ _ _ _ _ _ _ _ _ _ _ _ _ _ _ _ _ _ _ _ _ _ _ _ _ _ _ _ _ _ _ _ _ _ _ _ _ _ _ _ _ _ _ _ _ _ _ _ _ _ _ _ _ _ _ _ _ _ _ _ _ _ _ _ _ _ _ _ _ _ _ _ _ _ _ _ _ _ _ _ _ _ _ _ _ _ _ _ _ _ _ _ _ _ _ _ _ _ _ _ _ _ _ _ _ _ _ _ _ _ _ _ _ _ _ _ _ _ _ _ _ _ _ _ _ _ _ _ _ _ _ _ _ _ _ _ _ _ _ _ _ _ _ _ _ _ _ _ _ _ _ _ _ _ _ _ _ _ _ _ _ _ _ _ _ _ _ _ _ _ _ _ _ _ _ _ _ _ _ _ _ _ _ _ _ _ _ _ _ _ _ _ _ _ _ _ _ _ _ _ _ _ _ _ _ _ _ _ _ _ _ _ _ _ _ _ _ _ _ _ _ _ _ _ _ _ _ _ _ _ _ _ _ _ _ _ _ _ _ _ _ _ _ _ _ _ _ _ _ _ _ _ _ _ _ _ _ _ _ _ _ _ _ _ _ _ _ _ _ _ _ _ _ _ _ _ _ _ _ _ _ _ _ _ _ _ _ _ _ _ _ _ _ _ _ _ _ _ _ _ _ _ _ _ _ _ _ _ _ _ HMD HA HB hn (hideIt HBB.out.1) (hideIt HBB.out.2) ?bad ?good
        case bad =>
          intro v30 v31 v32 v33 v34 v35 v36 v37 v38 v39 v40 v214 v215 v216 v217 v218 v219 v220 v221 v222 v223 v224 v225 v226 v227 v228 v229 v230 v231 v232 v233 v234 v235 v236 v237 v238 v239 v240 v241 v242 v243 v244 v245 v246 v247 v248 v249 v250 v251 v252 v253 v254 v255 v256 v257 v258 v259 v260 v261 v262 v263 v264 v265 v266 v267 v268 v269 v270 v271 v272 v273 wx HPB
          have fin := hideIt (HI.out.next (wy := wx) hil HF.out.1 HF.out.2 (stepM_none (s := s) (msgEs_bad HPB.out.1)) HPB.out.2)
          go_wp2_with fail
          go_roundw
          case rel => exact ⟨i + 1, s, by omega, by go_num, rfl, fin⟩
          case measure => simp [intOf]; omega
        case good =>
          intro v31 v32 v33 v34 v35 v36 v37 v38 v39 v40 v214 v215 v216 v217 v218 v219 v220 v221 v222 v223 v224 v225 v226 v227 v228 v229 v230 v231 v232 v233 v234 v235 v236 v237 v238 v239 v240 v241 v242 v243 v244 v245 v246 v247 v248 v249 v250 v251 v252 v253 v254 v255 v256 v257 v258 v259 v260 v261 v262 v263 v264 v265 v266 v267 v268 v269 v270 v271 v272 v273 pos es C' X' N' wx HPI
          have hpa := HPI.out.pr.all HPI.out.len
          have hle := HPI.out.le
          have hvn := HVN.out
          by_cases hpos : pos = vn
          · have hpb : ((pos : Int) != (vn : Int)) = false := by rw [hpos]; exact bne_self_eq_false _
            have hdr : l.drop pos = [] := by rw [List.drop_eq_nil_iff]; omega
            rw [hdr] at hpa
            have cC := (HPI.out.md.cellC fr hfr).1
            have cX := (HPI.out.md.cellX fr hfr).1
            rw [HPI.out.sy.c fr (by rw [HPI.out.len]; exact hfr)] at cC
            rw [HPI.out.sy.x fr (by rw [HPI.out.len]; exact hfr)] at cX
            clear hpos hle hvn hdr
            rcases entAt_ok HPI.out.pr.ok fr (by rw [HPI.out.len]; exact hfr) with ⟨e1, e2, e3⟩ | ⟨e1, e2, e3⟩ | ⟨e1, e2, e3⟩
            · have fin := hideIt (HI.out.next (wy := wx) hil HF.out.1 HF.out.2 (stepM_none (s := s) (msgEs_not hpa (by simp [e1]))) ⟨C', X', N', HPI.out.md⟩)
              rw [e1] at cC
              rw [e2] at cX
              clear e1 e2 e3 hpa
              go_wp2_with fail
              go_roundw
              case rel => exact ⟨i + 1, s, by omega, by go_num, rfl, fin⟩
              case measure => simp [intOf]; omega
            · have fin := hideIt (HI.out.next (wy := wx) hil HF.out.1 HF.out.2 (stepM_none (s := s) (msgEs_not hpa (by simp [e2]))) ⟨C', X', N', HPI.out.md⟩)
              rw [e1] at cC
              rw [e2] at cX
              clear e1 e2 e3 hpa
              go_wp2_with fail
              go_roundw
              case rel => exact ⟨i + 1, s, by omega, by go_num, rfl, fin⟩
              case measure => simp [intOf]; omega
            · have HES := hideIt (msgEs_yes (n := n) (f := (fr : Int)) (by omega) hpa ⟨e1, e2⟩)
              rw [e1] at cC
              rw [e2] at cX
              clear e1 e2 e3 hpa
              go_wp2_with fail
              refine lacks_loop w0 wx B bk bi bs bc bx bn n s.L s.I s.S C' X' N' es _ _ _ _ _ _ _ _ _ _ _ _ _ _ _ _ _ _ _ _ _ _ _ _ _ _ _ _ _ _ _ _ _ _ _ _ _ _ _ _ _ _ _ _ _ _ _ _ _ _ _ _ _ _ _ _ _ _ _ _ _ _ _ _ _ _ _ _ _ _ _ _ _ _ _ _ _ _ _ _ _ _ _ _ _ _ _ _ _ _ _ _ _ _ _ _ _ _ _ _ _ _ _ _ _ _ _ _ _ _ _ _ _ _ _ _ _ _ _ _ _ _ _ _ _ _ _ _ _ _ _ _ _ _ _ _ _ _ _ _ _ _ _ _ _ _ _ _ _ _ _ _ _ _ _ _ _ _ _ _ _ _ _ _ _ _ _ _ _ _ _ _ _ _ _ _ _ _ _ _ _ _ _ _ _ _ _ _ _ _ _ _ _ _ _ _ _ _ _ _ _ _ _ _ _ _ _ _ _ _ _ _ _ _ _ _ _ _ _ _ _ _ _ _ _ _ _ _ _ _ _ _ _ _ _ _ _ _ _ _ _ _ _ _ _ _ _ _ _ _ _ _ _ _ _ _ _ _ _ _ _ _ _ _ _ _ _ _ _ _ _ _ _ _ _ _ _ _ _ _ _ _ _ _ _ _ _ _ _ _ _ _ _ _ _ _ _ _ _ _ _ _ _ _ _ _ _ _ _ _ _ _ _ _ _ _ _ _ _ _ _ _ _ _ _ _ _ _ _ _ _ _ _ _ _ _ _ _ _ _ _ _ _ _ _ _ _ _ _ _ _ _ _ _ _ _ _ _ _ _ _ _ _ _ _ _ _ _ _ _ _ _ _ _ _ _ _ _ _ _ _ _ _ _ _ _ _ _ _ _ _ _ _ _ _ _ _ _ _ _ _ _ _ _ _ _ _ _ _ _ _ _ _ _ _ _ _ _ _ _ _ _ _ _ _ _ _ _ _ _ _ _ _ _ _ _ _ _ _ _ _ _ _ _ _ _ _ _ _ _ _ _ _ _ _ _ _ _ _ _ _ _ _ _ _ _ _ _ _ _ _ _ _ _ _ _ _ _ (hideIt HPI.out.md) hn (hideIt HI.out.low) (hideIt ⟨HPI.out.len, HPI.out.pr.ok, HPI.out.sy⟩) ?_
              intro y42 y296 y297 y298 y299 y300 y301 y302 y303 y304 y305 y306 y307 y308 y309 y310 y311 y312 y313 y314 y315 y316 y317 y318 y319
              rcases hot : okT es s.L n with _ | _
              · have fin := hideIt (HI.out.next (wy := wx) hil HF.out.1 HF.out.2 (stepM_no (s := s) HES.out hot) ⟨C', X', N', HPI.out.md⟩)
                clear hot
                go_wp2_with fail
                go_roundw
                case rel => exact ⟨i + 1, s, by omega, by go_num, rfl, fin⟩
                case measure => simp [intOf]; omega
              · have HYES := hideIt (stepM_yes (s := s) HES.out hot)
                clear hot
                go_wp2_with fail
                refine take_loop w0 wx B bk bi bs bc bx bn n s.L s.I s.S C' X' N' es _ _ _ _ _ _ _ _ _ _ _ _ _ _ _ _ _ _ _ _ _ _ _ _ _ _ _ _ _ _ _ _ _ _ _ _ _ _ _ _ _ _ _ _ _ _ _ _ _ _ _ _ _ _ _ _ _ _ _ _ _ _ _ _ _ _ _ _ _ _ _ _ _ _ _ _ _ _ _ _ _ _ _ _ _ _ _ _ _ _ _ _ _ _ _ _ _ _ _ _ _ _ _ _ _ _ _ _ _ _ _ _ _ _ _ _ _ _ _ _ _ _ _ _ _ _ _ _ _ _ _ _ _ _ _ _ _ _ _ _ _ _ _ _ _ _ _ _ _ _ _ _ _ _ _ _ _ _ _ _ _ _ _ _ _ _ _ _ _ _ _ _ _ _ _ _ _ _ _ _ _ _ _ _ _ _ _ _ _ _ _ _ _ _ _ _ _ _ _ _ _ _ _ _ _ _ _ _ _ _ _ _ _ _ _ _ _ _ _ _ _ _ _ _ _ _ _ _ _ _ _ _ _ _ _ _ _ _ _ _ _ _ _ _ _ _ _ _ _ _ _ _ _ _ _ _ _ _ _ _ _ _ _ _ _ _ _ _ _ _ _ _ _ _ _ _ _ _ _ _ _ _ _ _ _ _ _ _ _ _ _ _ _ _ _ _ _ _ _ _ _ _ _ _ _ _ _ _ _ _ _ _ _ _ _ _ _ _ _ _ _ _ _ _ _ _ _ _ _ _ _ _ _ _ _ _ _ _ _ _ _ _ _ _ _ _ _ _ _ _ _ _ _ _ _ _ _ _ _ _ _ _ _ _ _ _ _ _ _ _ _ _ _ _ _ _ _ _ _ _ _ _ _ _ _ _ _ _ _ _ _ _ _ _ _ _ _ _ _ _ _ _ _ _ _ _ _ _ _ _ _ _ _ _ _ _ _ _ _ _ _ _ _ _ _ _ _ _ _ _ _ _ _ _ _ _ _ _ _ _ _ _ _ _ _ _ _ _ _ _ _ _ _ _ _ _ _ _ _ _ _ _ _ _ _ _ _ _ _ _ _ _ _ _ _ _ _ (hideIt HPI.out.md) HA HB hn (hideIt HI.out.low) (hideIt ⟨HPI.out.len, HPI.out.pr.ok, HPI.out.sy⟩) ?_
                intro z43 z321 z322 z323 z324 z325 z326 z327 z328 z329 z330 z331 z332 z333 z334 z335 z336 z337 z338 z339 z340 z341 z342 z343 z344 z345 z346 z347 z348 z349 z350 z351 z352 z353 z354 z355 z356 z357 z358 z359 z360 z361 z362 z363 z364 z365 wy HMY
                have fin := hideIt (HI.out.next (wy := wy) hil HF.out.1 HF.out.2 HYES.out ⟨C', X', N', HMY.out⟩)
                go_wp2_with fail
                go_roundw
                case rel => exact ⟨i + 1, _, by omega, by go_num, rfl, fin⟩
                case measure => simp [intOf]; omega
          · have hpb : ((pos : Int) != (vn : Int)) = true := bne_iff_ne.2 (by omega)
            have hdr : l.drop pos ≠ [] := by rw [Ne, List.drop_eq_nil_iff]; omega
            have fin := hideIt (HI.out.next (wy := wx) hil HF.out.1 HF.out.2 (stepM_none (s := s) (msgEs_left hpa hdr)) ⟨C', X', N', HPI.out.md⟩)
            clear hpos hle hpa hdr hvn
            go_wp2_with fail
            go_roundw
            case rel => exact ⟨i + 1, s, by omega, by go_num, rfl, fin⟩
            case measure => simp [intOf]; omega
      · have fin := hideIt (HI.out.next hil HF.out.1 HF.out.2 (stepM_none (s := s) (msgEs_out hr)) ⟨C, X, N, HMD.out⟩)
        have hr' : f < 0 ∨ (n : Int) ≤ f := by omega
        clear hr
        rcases hr' with hr' | hr'
        · go_wp2_with fail
          go_roundw
          case rel => exact ⟨i + 1, s, by omega, by go_num, rfl, fin⟩
          case measure => simp [intOf]; omega
        · have hr2 : 0 ≤ f := by omega
          go_wp2_with fail
          go_roundw
          case rel => exact ⟨i + 1, s, by omega, by go_num, rfl, fin⟩
          case measure => simp [intOf]; omega
    · obtain rfl : i = NN := by omega
      have e : s = foldM n s0 ms := by rw [HI.out.eq, List.take_of_length_le (by rw [HIN.out.len]; exact Nat.le_refl _)]
      subst e
      go_wp2_with fail
      exact ⟨rfl, HQ.out _ _ _ _ _ _ _ _ _ _ _ _ _ _ _ _ _ _ _ _ _ _ _ _ _ _ _ _ _ _ _ _ _ _ _ _ _ _ _ _ _ _ _ _ _ _ _ _ _ _ _ _ _ _ _ _ _ _ _ _ _ _ _ _ _ _ _ _ _ _ _ _ _ _ _ _ _ _ _ _ _ _ _ _ _ _ _ _ _ _ _ _ _ _ _ _ _ _ _ _ _ _ _ _ _ _ _ _ _ _ _ _ _ _ _ _ _ _ _ _ _ _ _ _ _ _ _ _ _ _ _ _ _ _ _ _ _ _ _ _ _ _ _ _ _ _ _ _ _ _ _ _ _ _ _ _ _ _ _ _ _ _ _ _ _ _ _ _ _ _ _ _ _ _ _ _ _ _ _ _ _ _ _ _ _ _ _ _ _ _ _ _ _ _ _ _ _ HI⟩
end Go.Proofs.Qxb6613198aDoor
