import Derived.Test.Qxb6613198aDoorLacks
namespace Go.Proofs.Qxb6613198aDoor
open Go.ChangeShapes Go.WideShapes Go.ChangeAt Go.RowKit
open Plain
set_option linter.unusedVariables false
set_option linter.unusedSimpArgs false
noncomputable def loop3g : Code := (loopsOf (Tryd.f3.body.getD .skip)).getD 6 .skip
theorem minSk_skip (es : List Ent) (S : List Int) (k : Nat) (hv : S.getD k 0 ≤ ((entAt es k).c : Int) - 1) : minSk es S k = minSk es S (k + 1) := by
  refine map_range_congr _ _ _ fun j hj => ?_
  by_cases h : j < k
  · rw [if_pos h, if_pos (c := j < k + 1) (by omega)]
  · by_cases h' : j = k
    · subst h'
      rw [if_neg h, if_pos (c := j < j + 1) (by omega), Int.min_eq_left hv]
    · rw [if_neg h, if_neg (c := j < k + 1) (by omega)]
theorem Md.sameN {w0 wx : World} {B bk bi bs bc bx bn n : Nat} {K : List Bool} {I S C X N : List Int} (h : Md w0 wx B bk bi bs bc bx bn n K I S C X N) (q : Nat) : Md w0 (wx.drewN q) B bk bi bs bc bx bn n K I S C X N :=
  ⟨h.k, h.lk, h.i, h.li, h.s, h.ls, h.c, h.lc, h.x, h.lx, h.v, h.lv, ⟨h.b.os, h.b.tape, h.b.output, h.b.size, h.b.block⟩⟩
theorem KOf_set (es : List Ent) (L : List Int) (h : Nat) (hh : h < L.length) (hc : (entAt es h).c = 1) : (KOf (takeLk es L h)).set h true = KOf (takeLk es L (h + 1)) := by
  have e := takeLk_set es L h hh _ rfl
  rw [← e]
  unfold KOf
  rw [List.map_set]
  congr 1
  rw [hc]
  exact (decide_eq_true (by omega)).symm
theorem takeLk_at (es : List Ent) (L : List Int) (h : Nat) (hh : h < L.length) : (takeLk es L h).getD h 0 = L.getD h 0 := takeLk_get es L h hh

set_option maxHeartbeats 4000000 in
set_option maxRecDepth 100000 in
theorem take_loop (w0 w : World) (B bk bi bs bc bx bn n : Nat) (L I S C X N : List Int) (es : List Ent) (c0 c2 c3 c4 c5 c6 c7 c8 c9 c10 c11 c12 c13 c14 c15 c16 c17 c22 c24 c25 c26 c27 c28 c29 c30 c31 c32 c33 c34 c35 c36 c37 c38 c39 c40 c41 c42 c44 c45 c46 c47 c48 c49 c50 c51 c52 c53 c54 c55 c56 c57 c58 c59 c60 c61 c62 c63 c64 c65 c66 c67 c68 c69 c70 c71 c72 c73 c74 c75 c76 c77 c78 c79 c80 c81 c82 c83 c84 c85 c86 c87 c88 c89 c90 c91 c92 c93 c94 c95 c96 c97 c98 c99 c100 c101 c102 c103 c104 c105 c106 c107 c108 c109 c110 c111 c112 c113 c114 c115 c116 c117 c118 c119 c120 c121 c122 c123 c124 c125 c126 c127 c128 c129 c130 c131 c132 c133 c134 c135 c136 c137 c138 c139 c140 c141 c142 c143 c144 c145 c146 c147 c148 c149 c150 c151 c152 c153 c154 c155 c156 c157 c158 c159 c160 c161 c162 c163 c164 c165 c166 c167 c168 c169 c170 c171 c172 c173 c174 c175 c176 c177 c178 c179 c180 c181 c182 c183 c184 c185 c186 c187 c188 c189 c190 c191 c192 c193 c194 c195 c196 c197 c198 c199 c200 c201 c202 c203 c204 c205 c206 c207 c208 c209 c210 c211 c212 c213 c214 c215 c216 c217 c218 c219 c220 c221 c222 c223 c224 c225 c226 c227 c228 c229 c230 c231 c232 c233 c234 c235 c236 c237 c238 c239 c240 c241 c242 c243 c244 c245 c246 c247 c248 c249 c250 c251 c252 c253 c254 c255 c256 c257 c258 c259 c260 c261 c262 c263 c264 c265 c266 c267 c268 c269 c270 c271 c272 c273 c274 c275 c276 c277 c278 c279 c280 c281 c282 c283 c284 c285 c286 c287 c288 c289 c290 c291 c292 c293 c294 c295 c296 c297 c298 c299 c300 c301 c302 c303 c304 c305 c306 c307 c308 c309 c310 c311 c312 c313 c314 c315 c316 c317 c318 c319 c320 c321 c322 c323 c324 c325 c326 c327 c328 c329 c330 c331 c332 c333 c334 c335 c336 c337 c338 c339 c340 c341 c342 c343 c344 c345 c346 c347 c348 c349 c350 c351 c352 c353 c354 c355 c356 c357 c358 c359 c360 c361 c362 c363 c364 c365 c366 c367 c368 c369 c370 c371 c372 c373 c374 c375 c376 c377 c378 c379 c380 c381 c382 c383 c384 c385 c386 c387 c388 c389 c390 c391 c392 c393 c394 c395 c396 c397 c398 c399 c400 c401 c402 c403 c404 c405 c406 c407 c408 c409 c410 c411 c412 c413 c414 c415 c416 c417 c418 c419 c420 c421 c422 c423 c424 c425 c426 c427 c428 c429 c430 c431 c432 c433 c434 c435 c436 c437 c438 c439 c440 c441 c442 c443 c444 c445 c446 c447 c448 c449 c450 c451 c452 c453 c454 c455 c456 c457 c458 c459 c460 c461 c462 c463 c464 c465 c466 c467 c468 c469 c470 c471 c472 c473 c474 c475 c476 c477 c478 c479 c480 c481 c482 : Value) (Q : Exit → Act → World → Prop)
    (HM : Hid (Md w0 w B bk bi bs bc bx bn n (KOf L) I S C X N)) (HA : Hid (Ap6 B bk bi bs bc bx bn)) (HB : Hid (B ≤ w0.heap.size)) (hn : n ≤ 64) (HL : Hid (Low L n)) (HE : Hid (es.length = n ∧ (∀ e ∈ es, e.ok) ∧ Say3 es C X N))
    (HQ : Hid (∀ (u43 u321 u322 u323 u324 u325 u326 u327 u328 u329 u330 u331 u332 u333 u334 u335 u336 u337 u338 u339 u340 u341 u342 u343 u344 u345 u346 u347 u348 u349 u350 u351 u352 u353 u354 u355 u356 u357 u358 u359 u360 u361 u362 u363 u364 u365 : Value) (wx : World), Hid (Md w0 wx B bk bi bs bc bx bn n (KOf (takeL es L)) (takeI es L I) (minS es S) C X N) → Q (.exit 12) ⟨List.toArray (c0 :: .int .i64 n :: c2 :: c3 :: c4 :: c5 :: c6 :: c7 :: c8 :: c9 :: c10 :: c11 :: c12 :: c13 :: c14 :: c15 :: c16 :: c17 :: .slice (some ⟨bk, 0, none⟩) n n :: .slice (some ⟨bi, 0, none⟩) n n :: .slice (some ⟨bs, 0, none⟩) n n :: .slice (some ⟨bc, 0, none⟩) n n :: c22 :: .slice (some ⟨bn, 0, none⟩) n n :: c24 :: c25 :: c26 :: c27 :: c28 :: c29 :: c30 :: c31 :: c32 :: c33 :: c34 :: c35 :: c36 :: c37 :: c38 :: c39 :: c40 :: c41 :: c42 :: u43 :: c44 :: c45 :: c46 :: c47 :: c48 :: c49 :: c50 :: c51 :: c52 :: c53 :: c54 :: c55 :: c56 :: c57 :: c58 :: c59 :: c60 :: c61 :: c62 :: c63 :: c64 :: c65 :: c66 :: c67 :: c68 :: c69 :: c70 :: c71 :: c72 :: c73 :: c74 :: c75 :: c76 :: c77 :: c78 :: c79 :: c80 :: c81 :: c82 :: c83 :: c84 :: c85 :: c86 :: c87 :: c88 :: c89 :: c90 :: c91 :: c92 :: c93 :: c94 :: c95 :: c96 :: c97 :: c98 :: c99 :: c100 :: c101 :: c102 :: c103 :: c104 :: c105 :: c106 :: c107 :: c108 :: c109 :: c110 :: c111 :: c112 :: c113 :: c114 :: c115 :: c116 :: c117 :: c118 :: c119 :: c120 :: c121 :: c122 :: c123 :: c124 :: c125 :: c126 :: c127 :: c128 :: c129 :: c130 :: c131 :: c132 :: c133 :: c134 :: c135 :: c136 :: c137 :: c138 :: c139 :: c140 :: c141 :: c142 :: c143 :: c144 :: c145 :: c146 :: c147 :: c148 :: c149 :: c150 :: c151 :: c152 :: c153 :: c154 :: c155 :: c156 :: c157 :: c158 :: c159 :: c160 :: c161 :: c162 :: c163 :: c164 :: c165 :: c166 :: c167 :: c168 :: c169 :: c170 :: c171 :: c172 :: c173 :: c174 :: c175 :: c176 :: c177 :: c178 :: c179 :: c180 :: c181 :: c182 :: c183 :: c184 :: c185 :: c186 :: c187 :: c188 :: c189 :: c190 :: c191 :: c192 :: c193 :: c194 :: c195 :: c196 :: c197 :: c198 :: c199 :: c200 :: c201 :: c202 :: c203 :: c204 :: c205 :: c206 :: c207 :: c208 :: c209 :: c210 :: c211 :: c212 :: c213 :: c214 :: c215 :: c216 :: c217 :: c218 :: c219 :: c220 :: c221 :: c222 :: c223 :: c224 :: c225 :: c226 :: c227 :: c228 :: c229 :: c230 :: c231 :: c232 :: c233 :: c234 :: c235 :: c236 :: c237 :: c238 :: c239 :: c240 :: c241 :: c242 :: c243 :: c244 :: c245 :: c246 :: c247 :: c248 :: c249 :: c250 :: c251 :: c252 :: c253 :: c254 :: c255 :: c256 :: c257 :: c258 :: c259 :: c260 :: c261 :: c262 :: c263 :: c264 :: c265 :: c266 :: c267 :: c268 :: c269 :: c270 :: c271 :: c272 :: c273 :: c274 :: c275 :: c276 :: c277 :: c278 :: c279 :: c280 :: c281 :: c282 :: c283 :: c284 :: c285 :: c286 :: c287 :: c288 :: c289 :: c290 :: c291 :: c292 :: c293 :: c294 :: c295 :: c296 :: c297 :: c298 :: c299 :: c300 :: c301 :: c302 :: c303 :: c304 :: c305 :: c306 :: c307 :: c308 :: c309 :: c310 :: c311 :: c312 :: c313 :: c314 :: c315 :: c316 :: c317 :: c318 :: c319 :: c320 :: u321 :: u322 :: u323 :: u324 :: u325 :: u326 :: u327 :: u328 :: u329 :: u330 :: u331 :: u332 :: u333 :: u334 :: u335 :: u336 :: u337 :: u338 :: u339 :: u340 :: u341 :: u342 :: u343 :: u344 :: u345 :: u346 :: u347 :: u348 :: u349 :: u350 :: u351 :: u352 :: u353 :: u354 :: u355 :: u356 :: u357 :: u358 :: u359 :: u360 :: u361 :: u362 :: u363 :: u364 :: u365 :: c366 :: c367 :: c368 :: c369 :: c370 :: c371 :: c372 :: c373 :: c374 :: c375 :: c376 :: c377 :: c378 :: c379 :: c380 :: c381 :: c382 :: c383 :: c384 :: c385 :: c386 :: c387 :: c388 :: c389 :: c390 :: c391 :: c392 :: c393 :: c394 :: c395 :: c396 :: c397 :: c398 :: c399 :: c400 :: c401 :: c402 :: c403 :: c404 :: c405 :: c406 :: c407 :: c408 :: c409 :: c410 :: c411 :: c412 :: c413 :: c414 :: c415 :: c416 :: c417 :: c418 :: c419 :: c420 :: c421 :: c422 :: c423 :: c424 :: c425 :: c426 :: c427 :: c428 :: c429 :: c430 :: c431 :: c432 :: c433 :: c434 :: c435 :: c436 :: c437 :: c438 :: c439 :: c440 :: c441 :: c442 :: c443 :: c444 :: c445 :: c446 :: c447 :: c448 :: c449 :: c450 :: c451 :: c452 :: c453 :: c454 :: c455 :: c456 :: c457 :: c458 :: c459 :: c460 :: c461 :: c462 :: c463 :: c464 :: c465 :: c466 :: c467 :: c468 :: c469 :: c470 :: c471 :: c472 :: c473 :: c474 :: c475 :: c476 :: c477 :: c478 :: c479 :: c480 :: c481 :: c482 :: []), []⟩ wx)) :
    Code.wp Tryd.prog (Code.loop loop3g) Q ⟨List.toArray (c0 :: .int .i64 n :: c2 :: c3 :: c4 :: c5 :: c6 :: c7 :: c8 :: c9 :: c10 :: c11 :: c12 :: c13 :: c14 :: c15 :: c16 :: c17 :: .slice (some ⟨bk, 0, none⟩) n n :: .slice (some ⟨bi, 0, none⟩) n n :: .slice (some ⟨bs, 0, none⟩) n n :: .slice (some ⟨bc, 0, none⟩) n n :: c22 :: .slice (some ⟨bn, 0, none⟩) n n :: c24 :: c25 :: c26 :: c27 :: c28 :: c29 :: c30 :: c31 :: c32 :: c33 :: c34 :: c35 :: c36 :: c37 :: c38 :: c39 :: c40 :: c41 :: c42 :: .int .i64 0 :: c44 :: c45 :: c46 :: c47 :: c48 :: c49 :: c50 :: c51 :: c52 :: c53 :: c54 :: c55 :: c56 :: c57 :: c58 :: c59 :: c60 :: c61 :: c62 :: c63 :: c64 :: c65 :: c66 :: c67 :: c68 :: c69 :: c70 :: c71 :: c72 :: c73 :: c74 :: c75 :: c76 :: c77 :: c78 :: c79 :: c80 :: c81 :: c82 :: c83 :: c84 :: c85 :: c86 :: c87 :: c88 :: c89 :: c90 :: c91 :: c92 :: c93 :: c94 :: c95 :: c96 :: c97 :: c98 :: c99 :: c100 :: c101 :: c102 :: c103 :: c104 :: c105 :: c106 :: c107 :: c108 :: c109 :: c110 :: c111 :: c112 :: c113 :: c114 :: c115 :: c116 :: c117 :: c118 :: c119 :: c120 :: c121 :: c122 :: c123 :: c124 :: c125 :: c126 :: c127 :: c128 :: c129 :: c130 :: c131 :: c132 :: c133 :: c134 :: c135 :: c136 :: c137 :: c138 :: c139 :: c140 :: c141 :: c142 :: c143 :: c144 :: c145 :: c146 :: c147 :: c148 :: c149 :: c150 :: c151 :: c152 :: c153 :: c154 :: c155 :: c156 :: c157 :: c158 :: c159 :: c160 :: c161 :: c162 :: c163 :: c164 :: c165 :: c166 :: c167 :: c168 :: c169 :: c170 :: c171 :: c172 :: c173 :: c174 :: c175 :: c176 :: c177 :: c178 :: c179 :: c180 :: c181 :: c182 :: c183 :: c184 :: c185 :: c186 :: c187 :: c188 :: c189 :: c190 :: c191 :: c192 :: c193 :: c194 :: c195 :: c196 :: c197 :: c198 :: c199 :: c200 :: c201 :: c202 :: c203 :: c204 :: c205 :: c206 :: c207 :: c208 :: c209 :: c210 :: c211 :: c212 :: c213 :: c214 :: c215 :: c216 :: c217 :: c218 :: c219 :: c220 :: c221 :: c222 :: c223 :: c224 :: c225 :: c226 :: c227 :: c228 :: c229 :: c230 :: c231 :: c232 :: c233 :: c234 :: c235 :: c236 :: c237 :: c238 :: c239 :: c240 :: c241 :: c242 :: c243 :: c244 :: c245 :: c246 :: c247 :: c248 :: c249 :: c250 :: c251 :: c252 :: c253 :: c254 :: c255 :: c256 :: c257 :: c258 :: c259 :: c260 :: c261 :: c262 :: c263 :: c264 :: c265 :: c266 :: c267 :: c268 :: c269 :: c270 :: c271 :: c272 :: c273 :: c274 :: c275 :: c276 :: c277 :: c278 :: c279 :: c280 :: c281 :: c282 :: c283 :: c284 :: c285 :: c286 :: c287 :: c288 :: c289 :: c290 :: c291 :: c292 :: c293 :: c294 :: c295 :: c296 :: c297 :: c298 :: c299 :: c300 :: c301 :: c302 :: c303 :: c304 :: c305 :: c306 :: c307 :: c308 :: c309 :: c310 :: c311 :: c312 :: c313 :: c314 :: c315 :: c316 :: c317 :: c318 :: c319 :: c320 :: c321 :: c322 :: c323 :: c324 :: c325 :: c326 :: c327 :: c328 :: c329 :: c330 :: c331 :: c332 :: c333 :: c334 :: c335 :: c336 :: c337 :: c338 :: c339 :: c340 :: c341 :: c342 :: c343 :: c344 :: c345 :: c346 :: c347 :: c348 :: c349 :: c350 :: c351 :: c352 :: c353 :: c354 :: c355 :: c356 :: c357 :: c358 :: c359 :: c360 :: c361 :: c362 :: c363 :: c364 :: c365 :: c366 :: c367 :: c368 :: c369 :: c370 :: c371 :: c372 :: c373 :: c374 :: c375 :: c376 :: c377 :: c378 :: c379 :: c380 :: c381 :: c382 :: c383 :: c384 :: c385 :: c386 :: c387 :: c388 :: c389 :: c390 :: c391 :: c392 :: c393 :: c394 :: c395 :: c396 :: c397 :: c398 :: c399 :: c400 :: c401 :: c402 :: c403 :: c404 :: c405 :: c406 :: c407 :: c408 :: c409 :: c410 :: c411 :: c412 :: c413 :: c414 :: c415 :: c416 :: c417 :: c418 :: c419 :: c420 :: c421 :: c422 :: c423 :: c424 :: c425 :: c426 :: c427 :: c428 :: c429 :: c430 :: c431 :: c432 :: c433 :: c434 :: c435 :: c436 :: c437 :: c438 :: c439 :: c440 :: c441 :: c442 :: c443 :: c444 :: c445 :: c446 :: c447 :: c448 :: c449 :: c450 :: c451 :: c452 :: c453 :: c454 :: c455 :: c456 :: c457 :: c458 :: c459 :: c460 :: c461 :: c462 :: c463 :: c464 :: c465 :: c466 :: c467 :: c468 :: c469 :: c470 :: c471 :: c472 :: c473 :: c474 :: c475 :: c476 :: c477 :: c478 :: c479 :: c480 :: c481 :: c482 :: []), []⟩ w := by
  refine wp_mono (Q := OnExit 12 (Q (.exit 12))) ?_ onExit_to
  conv => arg 2; arg 1; whnf
  have nd := HA.out.nd
  simp only [List.nodup_cons, List.mem_cons, List.not_mem_nil, or_false, not_or, not_false_eq_true, List.nodup_nil, and_true] at nd
  have n1 : bk ≠ bi := nd.1.1
  have n2 : bk ≠ bs := nd.1.2.1
  have n3 : bk ≠ bc := nd.1.2.2.1
  have n4 : bk ≠ bn := nd.1.2.2.2.2
  have n5 : bi ≠ bs := nd.2.1.1
  have n6 : bi ≠ bc := nd.2.1.2.1
  have n7 : bi ≠ bn := nd.2.1.2.2.2
  have n8 : bs ≠ bc := nd.2.2.1.1
  have n1' := Ne.symm n1
  have n2' := Ne.symm n2
  have n3' := Ne.symm n3
  have n4' := Ne.symm n4
  have n5' := Ne.symm n5
  have n6' := Ne.symm n6
  have n7' := Ne.symm n7
  have n8' := Ne.symm n8
  clear nd
  have HLI := hideIt HM.out.li
  have HLS := hideIt HM.out.ls
  go_loopw [43] (fun x wr => ∃ h : Nat, h ≤ n ∧ x = .int .i64 h ∧ Hid (Md w0 wr B bk bi bs bc bx bn n (KOf (takeLk es L (h))) (takeIk es L I (h)) (minSk es S (h)) C X N)) (fun x _ => n - (intOf x).toNat)
  case atStart => exact ⟨0, by omega, rfl, by rw [takeLk_zero, takeIk_zero, minSk_zero]; exact HM⟩
  case round =>
    obtain ⟨h, hh, rfl, HI⟩ := hrel
    by_cases hlh : h < n
    · obtain ⟨cK, fK⟩ := HI.out.cellK h hlh
      obtain ⟨cI, fI⟩ := HI.out.cellI h hlh
      obtain ⟨cS, fS⟩ := HI.out.cellS h hlh
      have cC := (HI.out.cellC h hlh).1
      have cN := (HI.out.cellV h hlh).1
      rw [KOf_get _ _ (by rw [takeLk_len, HL.out.1]; exact hlh), takeLk_at _ _ _ (by rw [HL.out.1]; exact hlh)] at cK
      rw [minSk_get _ _ _ (by rw [HLS.out]; exact hlh)] at cS
      rw [HE.out.2.2.c h (by rw [HE.out.1]; exact hlh)] at cC
      rw [HE.out.2.2.v h (by rw [HE.out.1]; exact hlh)] at cN
      have lo := HL.out.2 h hlh
      have ok := entAt_ok HE.out.2.1 h (by rw [HE.out.1]; exact hlh)
      have hcl : (entAt es h).c = 0 ∨ (entAt es h).c = 1 := by rcases ok with ok | ok | ok <;> omega
      obtain ⟨c, hc⟩ : ∃ c : Nat, c = (entAt es h).c := ⟨_, rfl⟩
      obtain ⟨v, hv⟩ : ∃ v : Int, v = ((entAt es h).v : Int) := ⟨_, rfl⟩
      obtain ⟨s, hs⟩ : ∃ s : Int, s = S.getD h 0 := ⟨_, rfl⟩
      rw [← hc] at cC hcl
      rw [← hv] at cN
      rw [← hs] at cS
      have HC := hideIt hc
      have HV := hideIt hv
      have HSS := hideIt hs
      have hB := HB.out
      have hAp := HA.out
      clear hc hv hs ok
      by_cases hk : 0 ≤ L.getD h 0
      · rw [decide_eq_true hk] at cK
        have hno : (c : Int) - 1 ≤ L.getD h 0 := by omega
        clear hk
        rcases hcl with rfl | rfl
        · by_cases hlo : ((0 : Nat) : Int) - 1 < s
          · have fin : ∀ q, Hid (Md w0 (((wr).drewN q).setCell ⟨bs, h, none⟩ (.int .i64 (-1))) B bk bi bs bc bx bn n (KOf (takeLk es L (h + 1))) (takeIk es L I (h + 1)) (minSk es S (h + 1)) C X N) := by
              intro q
              have m := ((HI.out.sameN q).setS hAp hB h (-1))
              rw [takeLk_skip es L h (by rw [← HC.out]; omega), takeIk_skip es L I h (by rw [← HC.out]; omega)] at m
              rw [minSk_set es S h (by rw [← HLS.out] at hlh; exact hlh) _ (by rw [← HC.out, ← HSS.out]; omega)] at m
              exact m
            have FIN := hideIt fin
            clear fin hAp hB lo hno
            go_wp2_with fail
            go_quiet (fail)
            go_wp2_with fail
            go_roundw
            case rel => exact ⟨h + 1, by omega, by go_num, FIN.out _⟩
            case measure => simp [intOf]; omega
          · have fin : ∀ q, Hid (Md w0 ((wr).drewN q) B bk bi bs bc bx bn n (KOf (takeLk es L (h + 1))) (takeIk es L I (h + 1)) (minSk es S (h + 1)) C X N) := by
              intro q
              have m := (HI.out.sameN q)
              rw [takeLk_skip es L h (by rw [← HC.out]; omega), takeIk_skip es L I h (by rw [← HC.out]; omega)] at m
              rw [minSk_skip es S h (by rw [← HC.out, ← HSS.out]; omega)] at m
              exact m
            have FIN := hideIt fin
            clear fin hAp hB lo hno
            go_wp2_with fail
            go_quiet (fail)
            go_wp2_with fail
            go_roundw
            case rel => exact ⟨h + 1, by omega, by go_num, FIN.out _⟩
            case measure => simp [intOf]; omega
        · by_cases hlo : ((1 : Nat) : Int) - 1 < s
          · have fin : ∀ q, Hid (Md w0 (((wr).drewN q).setCell ⟨bs, h, none⟩ (.int .i64 (0))) B bk bi bs bc bx bn n (KOf (takeLk es L (h + 1))) (takeIk es L I (h + 1)) (minSk es S (h + 1)) C X N) := by
              intro q
              have m := ((HI.out.sameN q).setS hAp hB h (0))
              rw [takeLk_skip es L h (by rw [← HC.out]; omega), takeIk_skip es L I h (by rw [← HC.out]; omega)] at m
              rw [minSk_set es S h (by rw [← HLS.out] at hlh; exact hlh) _ (by rw [← HC.out, ← HSS.out]; omega)] at m
              exact m
            have FIN := hideIt fin
            clear fin hAp hB lo hno
            go_wp2_with fail
            go_quiet (fail)
            go_wp2_with fail
            go_roundw
            case rel => exact ⟨h + 1, by omega, by go_num, FIN.out _⟩
            case measure => simp [intOf]; omega
          · have fin : ∀ q, Hid (Md w0 ((wr).drewN q) B bk bi bs bc bx bn n (KOf (takeLk es L (h + 1))) (takeIk es L I (h + 1)) (minSk es S (h + 1)) C X N) := by
              intro q
              have m := (HI.out.sameN q)
              rw [takeLk_skip es L h (by rw [← HC.out]; omega), takeIk_skip es L I h (by rw [← HC.out]; omega)] at m
              rw [minSk_skip es S h (by rw [← HC.out, ← HSS.out]; omega)] at m
              exact m
            have FIN := hideIt fin
            clear fin hAp hB lo hno
            go_wp2_with fail
            go_quiet (fail)
            go_wp2_with fail
            go_roundw
            case rel => exact ⟨h + 1, by omega, by go_num, FIN.out _⟩
            case measure => simp [intOf]; omega
      · rw [decide_eq_false hk] at cK
        rcases hcl with rfl | rfl
        · have hno : ((0 : Nat) : Int) - 1 ≤ L.getD h 0 := by omega
          clear hk
          by_cases hlo : ((0 : Nat) : Int) - 1 < s
          · have fin : ∀ q, Hid (Md w0 (((wr).drewN q).setCell ⟨bs, h, none⟩ (.int .i64 (-1))) B bk bi bs bc bx bn n (KOf (takeLk es L (h + 1))) (takeIk es L I (h + 1)) (minSk es S (h + 1)) C X N) := by
              intro q
              have m := ((HI.out.sameN q).setS hAp hB h (-1))
              rw [takeLk_skip es L h (by rw [← HC.out]; omega), takeIk_skip es L I h (by rw [← HC.out]; omega)] at m
              rw [minSk_set es S h (by rw [← HLS.out] at hlh; exact hlh) _ (by rw [← HC.out, ← HSS.out]; omega)] at m
              exact m
            have FIN := hideIt fin
            clear fin hAp hB lo hno
            go_wp2_with fail
            go_quiet (fail)
            go_wp2_with fail
            go_roundw
            case rel => exact ⟨h + 1, by omega, by go_num, FIN.out _⟩
            case measure => simp [intOf]; omega
          · have fin : ∀ q, Hid (Md w0 ((wr).drewN q) B bk bi bs bc bx bn n (KOf (takeLk es L (h + 1))) (takeIk es L I (h + 1)) (minSk es S (h + 1)) C X N) := by
              intro q
              have m := (HI.out.sameN q)
              rw [takeLk_skip es L h (by rw [← HC.out]; omega), takeIk_skip es L I h (by rw [← HC.out]; omega)] at m
              rw [minSk_skip es S h (by rw [← HC.out, ← HSS.out]; omega)] at m
              exact m
            have FIN := hideIt fin
            clear fin hAp hB lo hno
            go_wp2_with fail
            go_quiet (fail)
            go_wp2_with fail
            go_roundw
            case rel => exact ⟨h + 1, by omega, by go_num, FIN.out _⟩
            case measure => simp [intOf]; omega
        · have hc1 : 1 = 1 := rfl
          have hkk : L.getD h 0 < ((1 : Nat) : Int) - 1 := by omega
          clear hk
          by_cases hlo : ((1 : Nat) : Int) - 1 < s
          · have fin : ∀ q, Hid (Md w0 ((((wr.setCell ⟨bk, h, none⟩ (.bool true)).setCell ⟨bi, h, none⟩ (.int .i64 v)).drewN q).setCell ⟨bs, h, none⟩ (.int .i64 (0))) B bk bi bs bc bx bn n (KOf (takeLk es L (h + 1))) (takeIk es L I (h + 1)) (minSk es S (h + 1)) C X N) := by
              intro q
              have m := ((((HI.out.setK hAp hB h true).setI hAp hB h v).sameN q).setS hAp hB h (0))
              rw [KOf_set es L h (by rw [HL.out.1]; exact hlh) (by rw [← HC.out]), takeIk_set es L I h (by rw [← HLI.out] at hlh; exact hlh) _ HV.out (by rw [← HC.out]; omega)] at m
              rw [minSk_set es S h (by rw [← HLS.out] at hlh; exact hlh) _ (by rw [← HC.out, ← HSS.out]; omega)] at m
              exact m
            have FIN := hideIt fin
            clear fin hAp hB lo hc1 hkk
            go_wp2_with fail
            go_quiet (fail)
            go_wp2_with fail
            go_roundw
            case rel => exact ⟨h + 1, by omega, by go_num, FIN.out _⟩
            case measure => simp [intOf]; omega
          · have fin : ∀ q, Hid (Md w0 (((wr.setCell ⟨bk, h, none⟩ (.bool true)).setCell ⟨bi, h, none⟩ (.int .i64 v)).drewN q) B bk bi bs bc bx bn n (KOf (takeLk es L (h + 1))) (takeIk es L I (h + 1)) (minSk es S (h + 1)) C X N) := by
              intro q
              have m := (((HI.out.setK hAp hB h true).setI hAp hB h v).sameN q)
              rw [KOf_set es L h (by rw [HL.out.1]; exact hlh) (by rw [← HC.out]), takeIk_set es L I h (by rw [← HLI.out] at hlh; exact hlh) _ HV.out (by rw [← HC.out]; omega)] at m
              rw [minSk_skip es S h (by rw [← HC.out, ← HSS.out]; omega)] at m
              exact m
            have FIN := hideIt fin
            clear fin hAp hB lo hc1 hkk
            go_wp2_with fail
            go_quiet (fail)
            go_wp2_with fail
            go_roundw
            case rel => exact ⟨h + 1, by omega, by go_num, FIN.out _⟩
            case measure => simp [intOf]; omega
    · obtain rfl : h = n := by omega
      have hfin := HI.out
      rw [show takeLk es L h = takeL es L from by have := takeLk_all es L; rw [HL.out.1] at this; exact this, show takeIk es L I h = takeI es L I from by have := takeIk_all es L I; rw [HLI.out] at this; exact this, show minSk es S h = minS es S from by have := minSk_all es S; rw [HLS.out] at this; exact this] at hfin
      have HF := hideIt hfin
      clear hfin
      go_wp2_with fail
      exact ⟨rfl, HQ.out _ _ _ _ _ _ _ _ _ _ _ _ _ _ _ _ _ _ _ _ _ _ _ _ _ _ _ _ _ _ _ _ _ _ _ _ _ _ _ _ _ _ _ _ _ _ _ HF⟩
end Go.Proofs.Qxb6613198aDoor
