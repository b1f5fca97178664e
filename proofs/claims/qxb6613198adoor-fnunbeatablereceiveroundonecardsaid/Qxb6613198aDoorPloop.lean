import Derived.Test.Qxb6613198aDoorModel
namespace Go.Proofs.Qxb6613198aDoor
open Go.ChangeShapes Go.WideShapes Go.ChangeAt Go.RowKit
open Plain
set_option linter.unusedVariables false
set_option linter.unusedSimpArgs false
noncomputable def loop3e : Code := (loopsOf (Tryd.f3.body.getD .skip)).getD 4 .skip

/-- Where the parsing of a payload stands. -/
structure PI (w0 wx : World) (B bk bi bs bc bx bn n : Nat) (K : List Bool) (I S : List Int) (l : List UInt8) (h pos : Nat) (es : List Ent) (C X N : List Int) : Prop where
  len : es.length = h
  le : pos ≤ l.length
  pr : Prog n l es (l.drop pos)
  sy : Say3 es C X N
  md : Md w0 wx B bk bi bs bc bx bn n K I S C X N
def PBad (w0 wx : World) (B bk bi bs bc bx bn n : Nat) (K : List Bool) (I S : List Int) (l : List UInt8) : Prop := parse n l = none ∧ ∃ C X N, Md w0 wx B bk bi bs bc bx bn n K I S C X N

theorem PI.bad1 {w0 wx wy : World} {B bk bi bs bc bx bn n : Nat} {K : List Bool} {I S : List Int} {l : List UInt8} {h pos : Nat} {es : List Ent} {C X N : List Int} (hI : PI w0 wx B bk bi bs bc bx bn n K I S l h pos es C X N) (hh : h < n) (he : ent (l.drop pos) = none) {C' X' N' : List Int} (hm : Md w0 wy B bk bi bs bc bx bn n K I S C' X' N') : PBad w0 wy B bk bi bs bc bx bn n K I S l :=
  ⟨hI.pr.fail (by rw [hI.len]; exact hh) he, C', X', N', hm⟩

theorem PI.next {w0 wx wy : World} {B bk bi bs bc bx bn n : Nat} {K : List Bool} {I S : List Int} {l : List UInt8} {h pos : Nat} {es : List Ent} {C X N : List Int} (hI : PI w0 wx B bk bi bs bc bx bn n K I S l h pos es C X N) (hh : h < n) {e : Ent} {pos' : Nat} (he : ent (l.drop pos) = some (e, l.drop pos')) (hle : pos' ≤ l.length) {C' X' N' : List Int} (hm : Md w0 wy B bk bi bs bc bx bn n K I S C' X' N')
    (ec : C' = C.set h (e.c : Int)) (ex : X' = X.set h (e.x : Int)) (ev : N' = N.set h (e.v : Int)) : PI w0 wy B bk bi bs bc bx bn n K I S l (h + 1) pos' (es ++ [e]) C' X' N' := by
  have hl := hI.len
  subst hl
  exact ⟨by simp, hle, hI.pr.step hh he (ent_ok he), hI.sy.step e (by rw [hI.md.lc]; exact hh) (by rw [hI.md.lx]; exact hh) (by rw [hI.md.lv]; exact hh) ec ex ev, hm⟩

set_option maxHeartbeats 4000000 in
set_option maxRecDepth 100000 in
theorem parse_loop (w0 w : World) (B bk bi bs bc bx bn n : Nat) (K : List Bool) (I S C X N : List Int) (ao : Option Addr) (vn vc : Nat) (l : List UInt8) (c0 c2 c3 c4 c5 c6 c7 c8 c9 c10 c11 c12 c13 c14 c15 c16 c17 c18 c19 c20 c24 c25 c26 c27 c32 c33 c34 c35 c36 c37 c38 c39 c40 c41 c42 c43 c44 c45 c46 c47 c48 c49 c50 c51 c52 c53 c54 c55 c56 c57 c58 c59 c60 c61 c62 c63 c64 c65 c66 c67 c68 c69 c70 c71 c72 c73 c74 c75 c76 c77 c78 c79 c80 c81 c82 c83 c84 c85 c86 c87 c88 c89 c90 c91 c92 c93 c94 c95 c96 c97 c98 c99 c100 c101 c102 c103 c104 c105 c106 c107 c108 c109 c110 c111 c112 c113 c114 c115 c116 c117 c118 c119 c120 c121 c122 c123 c124 c125 c126 c127 c128 c129 c130 c131 c132 c133 c134 c135 c136 c137 c138 c139 c140 c141 c142 c143 c144 c145 c146 c147 c148 c149 c150 c151 c152 c153 c154 c155 c156 c157 c158 c159 c160 c161 c162 c163 c164 c165 c166 c167 c168 c169 c170 c171 c172 c173 c174 c175 c176 c177 c178 c179 c180 c181 c182 c183 c184 c185 c186 c187 c188 c189 c190 c191 c192 c193 c194 c195 c196 c197 c198 c199 c200 c201 c202 c203 c204 c205 c206 c207 c208 c209 c210 c211 c212 c213 c214 c215 c216 c217 c218 c219 c220 c221 c222 c223 c224 c225 c226 c227 c228 c229 c230 c231 c232 c233 c234 c235 c236 c237 c238 c239 c240 c241 c242 c243 c244 c245 c246 c247 c248 c249 c250 c251 c252 c253 c254 c255 c256 c257 c258 c259 c260 c261 c262 c263 c264 c265 c266 c267 c268 c269 c270 c271 c272 c273 c274 c275 c276 c277 c278 c279 c280 c281 c282 c283 c284 c285 c286 c287 c288 c289 c290 c291 c292 c293 c294 c295 c296 c297 c298 c299 c300 c301 c302 c303 c304 c305 c306 c307 c308 c309 c310 c311 c312 c313 c314 c315 c316 c317 c318 c319 c320 c321 c322 c323 c324 c325 c326 c327 c328 c329 c330 c331 c332 c333 c334 c335 c336 c337 c338 c339 c340 c341 c342 c343 c344 c345 c346 c347 c348 c349 c350 c351 c352 c353 c354 c355 c356 c357 c358 c359 c360 c361 c362 c363 c364 c365 c366 c367 c368 c369 c370 c371 c372 c373 c374 c375 c376 c377 c378 c379 c380 c381 c382 c383 c384 c385 c386 c387 c388 c389 c390 c391 c392 c393 c394 c395 c396 c397 c398 c399 c400 c401 c402 c403 c404 c405 c406 c407 c408 c409 c410 c411 c412 c413 c414 c415 c416 c417 c418 c419 c420 c421 c422 c423 c424 c425 c426 c427 c428 c429 c430 c431 c432 c433 c434 c435 c436 c437 c438 c439 c440 c441 c442 c443 c444 c445 c446 c447 c448 c449 c450 c451 c452 c453 c454 c455 c456 c457 c458 c459 c460 c461 c462 c463 c464 c465 c466 c467 c468 c469 c470 c471 c472 c473 c474 c475 c476 c477 c478 c479 c480 c481 c482 : Value) (Q : Exit → Act → World → Prop)
    (HM : Hid (Md w0 w B bk bi bs bc bx bn n K I S C X N)) (HA : Hid (Ap6 B bk bi bs bc bx bn)) (HB : Hid (B ≤ w0.heap.size)) (hn : n ≤ 64) (HP : Hid (BytB B w0 (.slice ao vn vc) l)) (HL : Hid (l.length ≤ 1048576))
    (HQ1 : Hid (∀ (u30 u31 u32 u33 u34 u35 u36 u37 u38 u39 u40 u214 u215 u216 u217 u218 u219 u220 u221 u222 u223 u224 u225 u226 u227 u228 u229 u230 u231 u232 u233 u234 u235 u236 u237 u238 u239 u240 u241 u242 u243 u244 u245 u246 u247 u248 u249 u250 u251 u252 u253 u254 u255 u256 u257 u258 u259 u260 u261 u262 u263 u264 u265 u266 u267 u268 u269 u270 u271 u272 u273 : Value) (wx : World), Hid (PBad w0 wx B bk bi bs bc bx bn n K I S l) → Q (.exit 8) ⟨List.toArray (c0 :: .int .i64 n :: c2 :: c3 :: c4 :: c5 :: c6 :: c7 :: c8 :: c9 :: c10 :: c11 :: c12 :: c13 :: c14 :: c15 :: c16 :: c17 :: c18 :: c19 :: c20 :: .slice (some ⟨bc, 0, none⟩) n n :: .slice (some ⟨bx, 0, none⟩) n n :: .slice (some ⟨bn, 0, none⟩) n n :: c24 :: c25 :: c26 :: c27 :: .slice ao vn vc :: .bool false :: u30 :: u31 :: u32 :: u33 :: u34 :: u35 :: u36 :: u37 :: u38 :: u39 :: u40 :: c41 :: c42 :: c43 :: c44 :: c45 :: c46 :: c47 :: c48 :: c49 :: c50 :: c51 :: c52 :: c53 :: c54 :: c55 :: c56 :: c57 :: c58 :: c59 :: c60 :: c61 :: c62 :: c63 :: c64 :: c65 :: c66 :: c67 :: c68 :: c69 :: c70 :: c71 :: c72 :: c73 :: c74 :: c75 :: c76 :: c77 :: c78 :: c79 :: c80 :: c81 :: c82 :: c83 :: c84 :: c85 :: c86 :: c87 :: c88 :: c89 :: c90 :: c91 :: c92 :: c93 :: c94 :: c95 :: c96 :: c97 :: c98 :: c99 :: c100 :: c101 :: c102 :: c103 :: c104 :: c105 :: c106 :: c107 :: c108 :: c109 :: c110 :: c111 :: c112 :: c113 :: c114 :: c115 :: c116 :: c117 :: c118 :: c119 :: c120 :: c121 :: c122 :: c123 :: c124 :: c125 :: c126 :: c127 :: c128 :: c129 :: c130 :: c131 :: c132 :: c133 :: c134 :: c135 :: c136 :: c137 :: c138 :: c139 :: c140 :: c141 :: c142 :: c143 :: c144 :: c145 :: c146 :: c147 :: c148 :: c149 :: c150 :: c151 :: c152 :: c153 :: c154 :: c155 :: c156 :: c157 :: c158 :: c159 :: c160 :: c161 :: c162 :: c163 :: c164 :: c165 :: c166 :: c167 :: c168 :: c169 :: c170 :: c171 :: c172 :: c173 :: c174 :: c175 :: c176 :: c177 :: c178 :: c179 :: c180 :: c181 :: c182 :: c183 :: c184 :: c185 :: c186 :: c187 :: c188 :: c189 :: c190 :: c191 :: c192 :: c193 :: c194 :: c195 :: c196 :: c197 :: c198 :: c199 :: c200 :: c201 :: c202 :: c203 :: c204 :: c205 :: c206 :: c207 :: c208 :: c209 :: c210 :: c211 :: c212 :: c213 :: u214 :: u215 :: u216 :: u217 :: u218 :: u219 :: u220 :: u221 :: u222 :: u223 :: u224 :: u225 :: u226 :: u227 :: u228 :: u229 :: u230 :: u231 :: u232 :: u233 :: u234 :: u235 :: u236 :: u237 :: u238 :: u239 :: u240 :: u241 :: u242 :: u243 :: u244 :: u245 :: u246 :: u247 :: u248 :: u249 :: u250 :: u251 :: u252 :: u253 :: u254 :: u255 :: u256 :: u257 :: u258 :: u259 :: u260 :: u261 :: u262 :: u263 :: u264 :: u265 :: u266 :: u267 :: u268 :: u269 :: u270 :: u271 :: u272 :: u273 :: c274 :: c275 :: c276 :: c277 :: c278 :: c279 :: c280 :: c281 :: c282 :: c283 :: c284 :: c285 :: c286 :: c287 :: c288 :: c289 :: c290 :: c291 :: c292 :: c293 :: c294 :: c295 :: c296 :: c297 :: c298 :: c299 :: c300 :: c301 :: c302 :: c303 :: c304 :: c305 :: c306 :: c307 :: c308 :: c309 :: c310 :: c311 :: c312 :: c313 :: c314 :: c315 :: c316 :: c317 :: c318 :: c319 :: c320 :: c321 :: c322 :: c323 :: c324 :: c325 :: c326 :: c327 :: c328 :: c329 :: c330 :: c331 :: c332 :: c333 :: c334 :: c335 :: c336 :: c337 :: c338 :: c339 :: c340 :: c341 :: c342 :: c343 :: c344 :: c345 :: c346 :: c347 :: c348 :: c349 :: c350 :: c351 :: c352 :: c353 :: c354 :: c355 :: c356 :: c357 :: c358 :: c359 :: c360 :: c361 :: c362 :: c363 :: c364 :: c365 :: c366 :: c367 :: c368 :: c369 :: c370 :: c371 :: c372 :: c373 :: c374 :: c375 :: c376 :: c377 :: c378 :: c379 :: c380 :: c381 :: c382 :: c383 :: c384 :: c385 :: c386 :: c387 :: c388 :: c389 :: c390 :: c391 :: c392 :: c393 :: c394 :: c395 :: c396 :: c397 :: c398 :: c399 :: c400 :: c401 :: c402 :: c403 :: c404 :: c405 :: c406 :: c407 :: c408 :: c409 :: c410 :: c411 :: c412 :: c413 :: c414 :: c415 :: c416 :: c417 :: c418 :: c419 :: c420 :: c421 :: c422 :: c423 :: c424 :: c425 :: c426 :: c427 :: c428 :: c429 :: c430 :: c431 :: c432 :: c433 :: c434 :: c435 :: c436 :: c437 :: c438 :: c439 :: c440 :: c441 :: c442 :: c443 :: c444 :: c445 :: c446 :: c447 :: c448 :: c449 :: c450 :: c451 :: c452 :: c453 :: c454 :: c455 :: c456 :: c457 :: c458 :: c459 :: c460 :: c461 :: c462 :: c463 :: c464 :: c465 :: c466 :: c467 :: c468 :: c469 :: c470 :: c471 :: c472 :: c473 :: c474 :: c475 :: c476 :: c477 :: c478 :: c479 :: c480 :: c481 :: c482 :: []), []⟩ wx))
    (HQ2 : Hid (∀ (u31 u32 u33 u34 u35 u36 u37 u38 u39 u40 u214 u215 u216 u217 u218 u219 u220 u221 u222 u223 u224 u225 u226 u227 u228 u229 u230 u231 u232 u233 u234 u235 u236 u237 u238 u239 u240 u241 u242 u243 u244 u245 u246 u247 u248 u249 u250 u251 u252 u253 u254 u255 u256 u257 u258 u259 u260 u261 u262 u263 u264 u265 u266 u267 u268 u269 u270 u271 u272 u273 : Value) (pos : Nat) (es : List Ent) (C' X' N' : List Int) (wx : World), Hid (PI w0 wx B bk bi bs bc bx bn n K I S l n pos es C' X' N') → Q (.exit 8) ⟨List.toArray (c0 :: .int .i64 n :: c2 :: c3 :: c4 :: c5 :: c6 :: c7 :: c8 :: c9 :: c10 :: c11 :: c12 :: c13 :: c14 :: c15 :: c16 :: c17 :: c18 :: c19 :: c20 :: .slice (some ⟨bc, 0, none⟩) n n :: .slice (some ⟨bx, 0, none⟩) n n :: .slice (some ⟨bn, 0, none⟩) n n :: c24 :: c25 :: c26 :: c27 :: .slice ao vn vc :: .bool true :: .int .i64 pos :: u31 :: u32 :: u33 :: u34 :: u35 :: u36 :: u37 :: u38 :: u39 :: u40 :: c41 :: c42 :: c43 :: c44 :: c45 :: c46 :: c47 :: c48 :: c49 :: c50 :: c51 :: c52 :: c53 :: c54 :: c55 :: c56 :: c57 :: c58 :: c59 :: c60 :: c61 :: c62 :: c63 :: c64 :: c65 :: c66 :: c67 :: c68 :: c69 :: c70 :: c71 :: c72 :: c73 :: c74 :: c75 :: c76 :: c77 :: c78 :: c79 :: c80 :: c81 :: c82 :: c83 :: c84 :: c85 :: c86 :: c87 :: c88 :: c89 :: c90 :: c91 :: c92 :: c93 :: c94 :: c95 :: c96 :: c97 :: c98 :: c99 :: c100 :: c101 :: c102 :: c103 :: c104 :: c105 :: c106 :: c107 :: c108 :: c109 :: c110 :: c111 :: c112 :: c113 :: c114 :: c115 :: c116 :: c117 :: c118 :: c119 :: c120 :: c121 :: c122 :: c123 :: c124 :: c125 :: c126 :: c127 :: c128 :: c129 :: c130 :: c131 :: c132 :: c133 :: c134 :: c135 :: c136 :: c137 :: c138 :: c139 :: c140 :: c141 :: c142 :: c143 :: c144 :: c145 :: c146 :: c147 :: c148 :: c149 :: c150 :: c151 :: c152 :: c153 :: c154 :: c155 :: c156 :: c157 :: c158 :: c159 :: c160 :: c161 :: c162 :: c163 :: c164 :: c165 :: c166 :: c167 :: c168 :: c169 :: c170 :: c171 :: c172 :: c173 :: c174 :: c175 :: c176 :: c177 :: c178 :: c179 :: c180 :: c181 :: c182 :: c183 :: c184 :: c185 :: c186 :: c187 :: c188 :: c189 :: c190 :: c191 :: c192 :: c193 :: c194 :: c195 :: c196 :: c197 :: c198 :: c199 :: c200 :: c201 :: c202 :: c203 :: c204 :: c205 :: c206 :: c207 :: c208 :: c209 :: c210 :: c211 :: c212 :: c213 :: u214 :: u215 :: u216 :: u217 :: u218 :: u219 :: u220 :: u221 :: u222 :: u223 :: u224 :: u225 :: u226 :: u227 :: u228 :: u229 :: u230 :: u231 :: u232 :: u233 :: u234 :: u235 :: u236 :: u237 :: u238 :: u239 :: u240 :: u241 :: u242 :: u243 :: u244 :: u245 :: u246 :: u247 :: u248 :: u249 :: u250 :: u251 :: u252 :: u253 :: u254 :: u255 :: u256 :: u257 :: u258 :: u259 :: u260 :: u261 :: u262 :: u263 :: u264 :: u265 :: u266 :: u267 :: u268 :: u269 :: u270 :: u271 :: u272 :: u273 :: c274 :: c275 :: c276 :: c277 :: c278 :: c279 :: c280 :: c281 :: c282 :: c283 :: c284 :: c285 :: c286 :: c287 :: c288 :: c289 :: c290 :: c291 :: c292 :: c293 :: c294 :: c295 :: c296 :: c297 :: c298 :: c299 :: c300 :: c301 :: c302 :: c303 :: c304 :: c305 :: c306 :: c307 :: c308 :: c309 :: c310 :: c311 :: c312 :: c313 :: c314 :: c315 :: c316 :: c317 :: c318 :: c319 :: c320 :: c321 :: c322 :: c323 :: c324 :: c325 :: c326 :: c327 :: c328 :: c329 :: c330 :: c331 :: c332 :: c333 :: c334 :: c335 :: c336 :: c337 :: c338 :: c339 :: c340 :: c341 :: c342 :: c343 :: c344 :: c345 :: c346 :: c347 :: c348 :: c349 :: c350 :: c351 :: c352 :: c353 :: c354 :: c355 :: c356 :: c357 :: c358 :: c359 :: c360 :: c361 :: c362 :: c363 :: c364 :: c365 :: c366 :: c367 :: c368 :: c369 :: c370 :: c371 :: c372 :: c373 :: c374 :: c375 :: c376 :: c377 :: c378 :: c379 :: c380 :: c381 :: c382 :: c383 :: c384 :: c385 :: c386 :: c387 :: c388 :: c389 :: c390 :: c391 :: c392 :: c393 :: c394 :: c395 :: c396 :: c397 :: c398 :: c399 :: c400 :: c401 :: c402 :: c403 :: c404 :: c405 :: c406 :: c407 :: c408 :: c409 :: c410 :: c411 :: c412 :: c413 :: c414 :: c415 :: c416 :: c417 :: c418 :: c419 :: c420 :: c421 :: c422 :: c423 :: c424 :: c425 :: c426 :: c427 :: c428 :: c429 :: c430 :: c431 :: c432 :: c433 :: c434 :: c435 :: c436 :: c437 :: c438 :: c439 :: c440 :: c441 :: c442 :: c443 :: c444 :: c445 :: c446 :: c447 :: c448 :: c449 :: c450 :: c451 :: c452 :: c453 :: c454 :: c455 :: c456 :: c457 :: c458 :: c459 :: c460 :: c461 :: c462 :: c463 :: c464 :: c465 :: c466 :: c467 :: c468 :: c469 :: c470 :: c471 :: c472 :: c473 :: c474 :: c475 :: c476 :: c477 :: c478 :: c479 :: c480 :: c481 :: c482 :: []), []⟩ wx)) :
    Code.wp Tryd.prog (Code.loop loop3e) Q ⟨List.toArray (c0 :: .int .i64 n :: c2 :: c3 :: c4 :: c5 :: c6 :: c7 :: c8 :: c9 :: c10 :: c11 :: c12 :: c13 :: c14 :: c15 :: c16 :: c17 :: c18 :: c19 :: c20 :: .slice (some ⟨bc, 0, none⟩) n n :: .slice (some ⟨bx, 0, none⟩) n n :: .slice (some ⟨bn, 0, none⟩) n n :: c24 :: c25 :: c26 :: c27 :: .slice ao vn vc :: .bool true :: .int .i64 0 :: .int .i64 0 :: c32 :: c33 :: c34 :: c35 :: c36 :: c37 :: c38 :: c39 :: c40 :: c41 :: c42 :: c43 :: c44 :: c45 :: c46 :: c47 :: c48 :: c49 :: c50 :: c51 :: c52 :: c53 :: c54 :: c55 :: c56 :: c57 :: c58 :: c59 :: c60 :: c61 :: c62 :: c63 :: c64 :: c65 :: c66 :: c67 :: c68 :: c69 :: c70 :: c71 :: c72 :: c73 :: c74 :: c75 :: c76 :: c77 :: c78 :: c79 :: c80 :: c81 :: c82 :: c83 :: c84 :: c85 :: c86 :: c87 :: c88 :: c89 :: c90 :: c91 :: c92 :: c93 :: c94 :: c95 :: c96 :: c97 :: c98 :: c99 :: c100 :: c101 :: c102 :: c103 :: c104 :: c105 :: c106 :: c107 :: c108 :: c109 :: c110 :: c111 :: c112 :: c113 :: c114 :: c115 :: c116 :: c117 :: c118 :: c119 :: c120 :: c121 :: c122 :: c123 :: c124 :: c125 :: c126 :: c127 :: c128 :: c129 :: c130 :: c131 :: c132 :: c133 :: c134 :: c135 :: c136 :: c137 :: c138 :: c139 :: c140 :: c141 :: c142 :: c143 :: c144 :: c145 :: c146 :: c147 :: c148 :: c149 :: c150 :: c151 :: c152 :: c153 :: c154 :: c155 :: c156 :: c157 :: c158 :: c159 :: c160 :: c161 :: c162 :: c163 :: c164 :: c165 :: c166 :: c167 :: c168 :: c169 :: c170 :: c171 :: c172 :: c173 :: c174 :: c175 :: c176 :: c177 :: c178 :: c179 :: c180 :: c181 :: c182 :: c183 :: c184 :: c185 :: c186 :: c187 :: c188 :: c189 :: c190 :: c191 :: c192 :: c193 :: c194 :: c195 :: c196 :: c197 :: c198 :: c199 :: c200 :: c201 :: c202 :: c203 :: c204 :: c205 :: c206 :: c207 :: c208 :: c209 :: c210 :: c211 :: c212 :: c213 :: c214 :: c215 :: c216 :: c217 :: c218 :: c219 :: c220 :: c221 :: c222 :: c223 :: c224 :: c225 :: c226 :: c227 :: c228 :: c229 :: c230 :: c231 :: c232 :: c233 :: c234 :: c235 :: c236 :: c237 :: c238 :: c239 :: c240 :: c241 :: c242 :: c243 :: c244 :: c245 :: c246 :: c247 :: c248 :: c249 :: c250 :: c251 :: c252 :: c253 :: c254 :: c255 :: c256 :: c257 :: c258 :: c259 :: c260 :: c261 :: c262 :: c263 :: c264 :: c265 :: c266 :: c267 :: c268 :: c269 :: c270 :: c271 :: c272 :: c273 :: c274 :: c275 :: c276 :: c277 :: c278 :: c279 :: c280 :: c281 :: c282 :: c283 :: c284 :: c285 :: c286 :: c287 :: c288 :: c289 :: c290 :: c291 :: c292 :: c293 :: c294 :: c295 :: c296 :: c297 :: c298 :: c299 :: c300 :: c301 :: c302 :: c303 :: c304 :: c305 :: c306 :: c307 :: c308 :: c309 :: c310 :: c311 :: c312 :: c313 :: c314 :: c315 :: c316 :: c317 :: c318 :: c319 :: c320 :: c321 :: c322 :: c323 :: c324 :: c325 :: c326 :: c327 :: c328 :: c329 :: c330 :: c331 :: c332 :: c333 :: c334 :: c335 :: c336 :: c337 :: c338 :: c339 :: c340 :: c341 :: c342 :: c343 :: c344 :: c345 :: c346 :: c347 :: c348 :: c349 :: c350 :: c351 :: c352 :: c353 :: c354 :: c355 :: c356 :: c357 :: c358 :: c359 :: c360 :: c361 :: c362 :: c363 :: c364 :: c365 :: c366 :: c367 :: c368 :: c369 :: c370 :: c371 :: c372 :: c373 :: c374 :: c375 :: c376 :: c377 :: c378 :: c379 :: c380 :: c381 :: c382 :: c383 :: c384 :: c385 :: c386 :: c387 :: c388 :: c389 :: c390 :: c391 :: c392 :: c393 :: c394 :: c395 :: c396 :: c397 :: c398 :: c399 :: c400 :: c401 :: c402 :: c403 :: c404 :: c405 :: c406 :: c407 :: c408 :: c409 :: c410 :: c411 :: c412 :: c413 :: c414 :: c415 :: c416 :: c417 :: c418 :: c419 :: c420 :: c421 :: c422 :: c423 :: c424 :: c425 :: c426 :: c427 :: c428 :: c429 :: c430 :: c431 :: c432 :: c433 :: c434 :: c435 :: c436 :: c437 :: c438 :: c439 :: c440 :: c441 :: c442 :: c443 :: c444 :: c445 :: c446 :: c447 :: c448 :: c449 :: c450 :: c451 :: c452 :: c453 :: c454 :: c455 :: c456 :: c457 :: c458 :: c459 :: c460 :: c461 :: c462 :: c463 :: c464 :: c465 :: c466 :: c467 :: c468 :: c469 :: c470 :: c471 :: c472 :: c473 :: c474 :: c475 :: c476 :: c477 :: c478 :: c479 :: c480 :: c481 :: c482 :: []), []⟩ w := by
  refine wp_mono (Q := OnExit 8 (Q (.exit 8))) ?_ onExit_to
  conv => arg 2; arg 1; whnf
  have nd := HA.out.nd
  simp only [List.nodup_cons, List.mem_cons, List.not_mem_nil, or_false, not_or, not_false_eq_true, List.nodup_nil, and_true] at nd
  have n1 : bc ≠ bx := nd.2.2.2.1.1
  have n2 : bc ≠ bn := nd.2.2.2.1.2
  have n3 : bx ≠ bn := nd.2.2.2.2
  have n1' := Ne.symm n1
  have n2' := Ne.symm n2
  have n3' := Ne.symm n3
  clear nd
  go_loopw [29, 30, 31] (fun g p x wr => ∃ h pos : Nat, h ≤ n ∧ g = .bool true ∧ p = .int .i64 pos ∧ x = .int .i64 h ∧ ∃ es C' X' N', Hid (PI w0 wr B bk bi bs bc bx bn n K I S l h pos es C' X' N')) (fun _ _ x _ => n - (intOf x).toNat)
  case atStart => exact ⟨0, 0, by omega, rfl, rfl, rfl, [], C, X, N, rfl, Nat.zero_le _, Prog.start n l, ⟨by simp, by simp, by simp⟩, HM.out⟩
  case round =>
    obtain ⟨h, pos, hh, rfl, rfl, rfl, es, C', X', N', HI⟩ := hrel
    by_cases hlh : h < n
    · have cC := HI.out.md.cellC h hlh
      have cX := HI.out.md.cellX h hlh
      have cN := HI.out.md.cellV h hlh
      obtain ⟨cC, fC⟩ := cC
      obtain ⟨cX, fX⟩ := cX
      obtain ⟨cN, fN⟩ := cN
      have HY := hideIt ((HP.out.below HI.out.md.b).byts)
      rcases hs : small (l.drop pos) with _ | ⟨c, k⟩
      · have hR := smallR_none hs
        have fin := hideIt (HI.out.bad1 hlh (ent_none1 hs) HI.out.md)
        clear hs
        go_wp2_with fail
        refine (small_any wr _ l pos HY.out HL.out HI.out.le).mono ?_
        rintro e w1 ⟨rfl, rfl⟩
        rw [hR]
        go_wp2_with fail
        exact ⟨rfl, HQ1.out _ _ _ _ _ _ _ _ _ _ _ _ _ _ _ _ _ _ _ _ _ _ _ _ _ _ _ _ _ _ _ _ _ _ _ _ _ _ _ _ _ _ _ _ _ _ _ _ _ _ _ _ _ _ _ _ _ _ _ _ _ _ _ _ _ _ _ _ _ _ _ _ fin⟩
      · have bd := small_bound hs
        have hpk : pos + k ≤ l.length := by have := bd.2.2; simp at this; have := HI.out.le; omega
        have hR := smallR_some hs
        have HPK := hideIt hpk
        have hB := HB.out
        have hAp := HA.out
        have dr1 : l.drop (pos + k) = (l.drop pos).drop k := by rw [List.drop_drop]
        rcases (show c = 0 ∨ c = 1 by omega) with rfl | rfl
        · obtain ⟨W2, hW2⟩ : ∃ W2, W2 = ((wr.setCell ⟨bc, h, none⟩ (.int .i64 0)).setCell ⟨bx, h, none⟩ (.int .i64 0)).setCell ⟨bn, h, none⟩ (.int .i64 0) := ⟨_, rfl⟩
          have md2 : Md w0 W2 B bk bi bs bc bx bn n K I S (C'.set h 0) (X'.set h 0) (N'.set h 0) := by
            rw [hW2]
            exact (((HI.out.md.setC hAp hB h 0).setX hAp hB h 0).setV hAp hB h 0)
          have fin := hideIt (HI.out.next hlh (e := ⟨0, 0, 0⟩) (pos' := pos + k) (by rw [dr1]; exact ent_zero hs) hpk md2 rfl rfl rfl)
          have HW2 := hideIt hW2
          clear hs hW2 md2 dr1 bd hpk hB hAp
          go_wp2_with fail
          refine (small_any wr _ l pos HY.out HL.out HI.out.le).mono ?_
          rintro e w1 ⟨rfl, rfl⟩
          rw [hR]
          go_wp2_with fail
          rw [← HW2.out]
          go_roundw
          case rel => exact ⟨h + 1, pos + k, by omega, rfl, rfl, by go_num, _, _, _, _, fin⟩
          case measure => simp [intOf]; omega
        · obtain ⟨W2, hW2⟩ : ∃ W2, W2 = ((wr.setCell ⟨bc, h, none⟩ (.int .i64 1)).setCell ⟨bx, h, none⟩ (.int .i64 0)).setCell ⟨bn, h, none⟩ (.int .i64 0) := ⟨_, rfl⟩
          have md2 : Md w0 W2 B bk bi bs bc bx bn n K I S (C'.set h 1) (X'.set h 0) (N'.set h 0) := by
            rw [hW2]
            exact (((HI.out.md.setC hAp hB h 1).setX hAp hB h 0).setV hAp hB h 0)
          have HW2 := hideIt hW2
          have cX2 := md2.cellX h hlh
          have cN2 := md2.cellV h hlh
          obtain ⟨cX2, fX2⟩ := cX2
          obtain ⟨cN2, fN2⟩ := cN2
          have HY2 := hideIt ((HP.out.below md2.b).byts)
          have HMD2 := hideIt md2
          clear hW2 bd
          rcases hs2 : small (l.drop (pos + k)) with _ | ⟨x, k2⟩
          · have hR2 := smallR_none hs2
            have fin := hideIt (HI.out.bad1 hlh (by rw [dr1] at hs2; exact ent_none2 hs hs2) md2)
            clear hs hs2 md2 dr1 hpk hB hAp
            go_wp2_with fail
            refine (small_any wr _ l pos HY.out HL.out HI.out.le).mono ?_
            rintro e w1 ⟨rfl, rfl⟩
            rw [hR]
            go_wp2_with fail
            rw [← HW2.out]
            refine (small_any W2 _ l (pos + k) HY2.out HL.out HPK.out).mono ?_
            rintro e w1 ⟨rfl, rfl⟩
            rw [hR2]
            go_wp2_with fail
            exact ⟨rfl, HQ1.out _ _ _ _ _ _ _ _ _ _ _ _ _ _ _ _ _ _ _ _ _ _ _ _ _ _ _ _ _ _ _ _ _ _ _ _ _ _ _ _ _ _ _ _ _ _ _ _ _ _ _ _ _ _ _ _ _ _ _ _ _ _ _ _ _ _ _ _ _ _ _ _ fin⟩
          · have bd2 := small_bound hs2
            have hpk2 : pos + k + k2 ≤ l.length := by have := bd2.2.2; simp at this; omega
            have hR2 := smallR_some hs2
            have dr2 : l.drop (pos + k + k2) = ((l.drop pos).drop k).drop k2 := by rw [List.drop_drop, List.drop_drop, Nat.add_assoc]
            rcases (show x = 0 ∨ x = 1 by omega) with rfl | rfl
            · obtain ⟨W3, hW3⟩ : ∃ W3, W3 = W2.setCell ⟨bx, h, none⟩ (.int .i64 0) := ⟨_, rfl⟩
              have md3 : Md w0 W3 B bk bi bs bc bx bn n K I S (C'.set h 1) ((X'.set h 0).set h 0) (N'.set h 0) := by
                rw [hW3]
                exact md2.setX hAp hB h 0
              have cN3 := md3.cellV h hlh
              obtain ⟨cN3, fN3⟩ := cN3
              have HY3 := hideIt ((HP.out.below md3.b).byts)
              have HW3 := hideIt hW3
              clear hW3 bd2
              have HPK2 := hideIt hpk2
              rcases hs3 : small (l.drop (pos + k + k2)) with _ | ⟨v, k3⟩
              · have hR3 := smallR_none hs3
                have fin := hideIt (HI.out.bad1 hlh (by rw [dr1] at hs2; rw [dr2] at hs3; exact ent_none3 hs hs2 hs3) md3)
                clear hs hs2 hs3 md2 md3 dr1 dr2 hpk hpk2 hB hAp
                go_wp2_with fail
                refine (small_any wr _ l pos HY.out HL.out HI.out.le).mono ?_
                rintro e w1 ⟨rfl, rfl⟩
                rw [hR]
                go_wp2_with fail
                rw [← HW2.out]
                refine (small_any W2 _ l (pos + k) HY2.out HL.out HPK.out).mono ?_
                rintro e w1 ⟨rfl, rfl⟩
                rw [hR2]
                go_wp2_with fail
                rw [← HW3.out]
                refine (small_any W3 _ l (pos + k + k2) HY3.out HL.out HPK2.out).mono ?_
                rintro e w1 ⟨rfl, rfl⟩
                rw [hR3]
                go_wp2_with fail
                exact ⟨rfl, HQ1.out _ _ _ _ _ _ _ _ _ _ _ _ _ _ _ _ _ _ _ _ _ _ _ _ _ _ _ _ _ _ _ _ _ _ _ _ _ _ _ _ _ _ _ _ _ _ _ _ _ _ _ _ _ _ _ _ _ _ _ _ _ _ _ _ _ _ _ _ _ _ _ _ fin⟩
              · have bd3 := small_bound hs3
                have hpk3 : pos + k + k2 + k3 ≤ l.length := by have := bd3.2.2; simp at this; omega
                have hR3 := smallR_some hs3
                have dr3 : l.drop (pos + k + k2 + k3) = (((l.drop pos).drop k).drop k2).drop k3 := by rw [List.drop_drop, List.drop_drop, List.drop_drop, Nat.add_assoc, Nat.add_assoc]
                obtain ⟨W4, hW4⟩ : ∃ W4, W4 = W3.setCell ⟨bn, h, none⟩ (.int .i64 v) := ⟨_, rfl⟩
                have md4 : Md w0 W4 B bk bi bs bc bx bn n K I S (C'.set h 1) ((X'.set h 0).set h 0) ((N'.set h 0).set h (v : Int)) := by
                  rw [hW4]
                  exact md3.setV hAp hB h v
                have fin := hideIt (HI.out.next hlh (e := ⟨1, 0, v⟩) (pos' := pos + k + k2 + k3) (by rw [dr1] at hs2; rw [dr2] at hs3; rw [dr3]; exact ent_in hs hs2 hs3) hpk3 md4 rfl (set_set_same _ _ _ _) (set_set_same _ _ _ _))
                have HW4 := hideIt hW4
                clear hs hs2 hs3 md2 md3 md4 dr1 dr2 dr3 hpk hpk2 hpk3 hB hAp bd3 hW4
                go_wp2_with fail
                refine (small_any wr _ l pos HY.out HL.out HI.out.le).mono ?_
                rintro e w1 ⟨rfl, rfl⟩
                rw [hR]
                go_wp2_with fail
                rw [← HW2.out]
                refine (small_any W2 _ l (pos + k) HY2.out HL.out HPK.out).mono ?_
                rintro e w1 ⟨rfl, rfl⟩
                rw [hR2]
                go_wp2_with fail
                rw [← HW3.out]
                refine (small_any W3 _ l (pos + k + k2) HY3.out HL.out HPK2.out).mono ?_
                rintro e w1 ⟨rfl, rfl⟩
                rw [hR3]
                go_wp2_with fail
                rw [← HW4.out]
                go_roundw
                case rel => exact ⟨h + 1, pos + k + k2 + k3, by omega, rfl, rfl, by go_num, _, _, _, _, fin⟩
                case measure => simp [intOf]; omega
            · obtain ⟨W3, hW3⟩ : ∃ W3, W3 = W2.setCell ⟨bx, h, none⟩ (.int .i64 1) := ⟨_, rfl⟩
              have md3 : Md w0 W3 B bk bi bs bc bx bn n K I S (C'.set h 1) ((X'.set h 0).set h 1) (N'.set h 0) := by
                rw [hW3]
                exact md2.setX hAp hB h 1
              have fin := hideIt (HI.out.next hlh (e := ⟨1, 1, 0⟩) (pos' := pos + k + k2) (by rw [dr1] at hs2; rw [dr2]; exact ent_one hs hs2) hpk2 md3 rfl (set_set_same _ _ _ _) rfl)
              have HW3 := hideIt hW3
              clear hs hs2 md2 md3 dr1 dr2 hpk hpk2 hB hAp bd2 hW3
              go_wp2_with fail
              refine (small_any wr _ l pos HY.out HL.out HI.out.le).mono ?_
              rintro e w1 ⟨rfl, rfl⟩
              rw [hR]
              go_wp2_with fail
              rw [← HW2.out]
              refine (small_any W2 _ l (pos + k) HY2.out HL.out HPK.out).mono ?_
              rintro e w1 ⟨rfl, rfl⟩
              rw [hR2]
              go_wp2_with fail
              rw [← HW3.out]
              go_roundw
              case rel => exact ⟨h + 1, pos + k + k2, by omega, rfl, rfl, by go_num, _, _, _, _, fin⟩
              case measure => simp [intOf]; omega
    · obtain rfl : h = n := by omega
      go_wp2_with fail
      exact ⟨rfl, HQ2.out _ _ _ _ _ _ _ _ _ _ _ _ _ _ _ _ _ _ _ _ _ _ _ _ _ _ _ _ _ _ _ _ _ _ _ _ _ _ _ _ _ _ _ _ _ _ _ _ _ _ _ _ _ _ _ _ _ _ _ _ _ _ _ _ _ _ _ _ _ _ pos es C' X' N' _ HI⟩
end Go.Proofs.Qxb6613198aDoor
