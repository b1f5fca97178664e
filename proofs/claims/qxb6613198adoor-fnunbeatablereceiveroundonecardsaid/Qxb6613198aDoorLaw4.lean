import Derived.Test.Qxb6613198aDoorRound
namespace Go.Proofs.Qxb6613198aDoor
open Go.ChangeShapes Go.WideShapes Go.ChangeAt Go.RowKit
open Plain
set_option linter.unusedVariables false

set_option maxHeartbeats 1000000 in
theorem silent_out (id n input last : Int) (w : World) (h : n < 1 ∨ 64 < n ∨ id < 0 ∨ n ≤ id ∨ input < 0 ∨ 1 < input ∨ last < 1 ∨ 65536 < last) :
    Calls Tryd.prog 4 #[.int .i64 id, .int .i64 n, .int .i64 input, .int .i64 last] w fun e w' => e = .returned (.bool true) ∧ w = w' := by
  by_cases c1 : n < 1
  · go_enter Tryd.func4, Tryd.ntmps4
    go_wp2_with fail
    go_ret
    exact ⟨rfl, rfl⟩
  by_cases c2 : 64 < n
  · go_enter Tryd.func4, Tryd.ntmps4
    go_wp2_with fail
    go_ret
    exact ⟨rfl, rfl⟩
  by_cases c3 : id < 0
  · go_enter Tryd.func4, Tryd.ntmps4
    go_wp2_with fail
    go_ret
    exact ⟨rfl, rfl⟩
  by_cases c4 : n ≤ id
  · go_enter Tryd.func4, Tryd.ntmps4
    go_wp2_with fail
    go_ret
    exact ⟨rfl, rfl⟩
  by_cases c5 : input < 0
  · go_enter Tryd.func4, Tryd.ntmps4
    go_wp2_with fail
    go_ret
    exact ⟨rfl, rfl⟩
  by_cases c6 : 1 < input
  · go_enter Tryd.func4, Tryd.ntmps4
    go_wp2_with fail
    go_ret
    exact ⟨rfl, rfl⟩
  by_cases c7 : last < 1
  · go_enter Tryd.func4, Tryd.ntmps4
    go_wp2_with fail
    go_ret
    exact ⟨rfl, rfl⟩
  have c8 : 65536 < last := by omega
  go_enter Tryd.func4, Tryd.ntmps4
  go_wp2_with fail
  go_ret
  exact ⟨rfl, rfl⟩

/-- The round, its number as the walk writes it. -/
theorem round_at (w : World) (k : Blks) (B id n lr t : Nat) (r input : Int) (now : Bool) (hr : r = ((t + 1 : Nat) : Int)) (h : Sil w k id n lr input now t) (ha : k.apart B) (hB : B ≤ w.heap.size) (h1 : 1 ≤ n) (hn : n ≤ 64) (hid : id < n) (hl : lr ≤ 65536) (ht : t < lr) (hin : now = false → input = 1) (hT : TabAt 0 Lib.deBruijn64tab w) :
    Calls Tryd.prog 8 #[.pointer (some ⟨k.bp, 0, none⟩), .int .i64 r, .slice none 0 0] w fun e w' => e = .returned (.tuple #[]) ∧ ∃ cr S, Hid (St w' k id n (lr + 1) lr (decide ((lr : Int) ≤ ((t + 1 : Nat) : Int))) (decOf now (t + 1)) (valOf now input (t + 1)) (rndOf now (t + 1)) cr (Ls n id ((t + 1 : Nat) : Int)) ((List.replicate n 0).set id input) S (List.replicate n MAXI) ∧
      S.getD (id * (lr + 1) + (t + 1)) 0 = ((2 ^ id : Nat) : Int) ∧ Below B w w') := by
  subst hr
  exact round_any w k B id n lr t input now h ha hB h1 hn hid hl ht hin hT

theorem heardAt_at (w : World) (k : Blks) (id n width h l : Nat) (li last : Int) (hli : li = (l : Int)) (ended dec : Bool) (val rnd : Int) (cr : Value) (L I S SH : List Int) (st : St w k id n width last ended dec val rnd cr L I S SH) (h1 : h < n) (h2 : l < width) (q : Int) (hq : S.getD (h * width + l) 0 = q) :
    Calls Tryd.prog 12 #[.pointer (some ⟨k.bp, 0, none⟩), .int .i64 h, .int .i64 li] w fun e w' => e = .returned (.int .u64 q) ∧ w = w' := by
  subst hli hq
  exact heardAt_any w k.bp id n k.bv k.br k.bsh k.bl k.bi k.bh k.bs (n * width) width h l last ended dec val rnd cr S st.p st.v st.h st.s st.ls h1 h2

theorem same_bool (lr t : Nat) (ht : t < lr) : ∃ b : Bool, decide ((lr : Int) ≤ ((t + 1 : Nat) : Int)) = b ∧ (((t : Int) + 1) == (lr : Int)) = b := by
  by_cases e : t + 1 = lr
  · exact ⟨true, by simp; omega, beq_iff_eq.2 (by omega)⟩
  · exact ⟨false, by simp; omega, beq_eq_false_iff_ne.2 (by omega)⟩

set_option maxHeartbeats 4000000 in
set_option maxRecDepth 100000 in
theorem silent_main (w : World) (id n lr : Nat) (input : Int) (now : Bool) (wr0 : Int) (h1 : 1 ≤ n) (hn : n ≤ 64) (hid : id < n) (hl1 : 1 ≤ lr) (hl2 : lr ≤ 65536) (hinp : input = 0 ∨ input = 1)
    (hnow : (now = true ∧ (input = 0 ∨ n = 1)) ∨ (now = false ∧ input = 1 ∧ 2 ≤ n)) (h0 : 0 < w.heap.size) (hT : TabAt 0 Lib.deBruijn64tab w)
    (hc : ((input == 0) = true ∧ wr0 = 0) ∨ ((input == 0) = false ∧ ((n : Int) == 1) = true ∧ wr0 = 0) ∨ ((input == 0) = false ∧ ((n : Int) == 1) = false ∧ wr0 = 1)) (hv : ∀ t, 1 ≤ t → valOf now input t = input ∧ rndOf now t = wr0) :
    Calls Tryd.prog 4 #[.int .i64 id, .int .i64 n, .int .i64 input, .int .i64 lr] w fun e w' => e = .returned (.bool true) ∧ Below w.heap.size w w' := by
  have i1 : 0 ≤ input := by omega
  have i2 : input ≤ 1 := by omega
  have hin : now = false → input = 1 := by rcases hnow with ⟨h, _⟩ | ⟨_, h, _⟩; intro e; rw [h] at e; cases e; intro _; exact h
  have HIN := hideIt hin
  have HINP := hideIt hinp
  have HNOW := hideIt hnow
  have HT := hideIt hT
  have HV := hideIt hv
  have HQ := hideIt (wrap_bit (id := id) (by omega))
  obtain ⟨q, hq⟩ : ∃ q : Int, q = ((2 ^ id : Nat) : Int) := ⟨_, rfl⟩
  have wq : IntKind.u64.wrap (2 ^ id) = q := by rw [HQ.out, hq]
  have HQQ := hideIt hq
  clear hin hinp hnow hT hv hq
  rcases hc with ⟨b1, hw0⟩ | ⟨b1, b2, hw0⟩ | ⟨b1, b2, hw0⟩
  all_goals
    subst hw0
    go_enter Tryd.func4, Tryd.ntmps4
    go_wp2_with fail
    refine (new_any w id n lr input h1 hn hid hl1 hl2 h0).mono ?_
    rintro e w1 ⟨k, rl, rf, ri, re, rfl, hf⟩
    have HF := hideIt hf
    clear hf
    go_wp2_with fail
    refine (start_any w w1 id n lr input k rl rf ri re now HF.out h1 hn hid hl1 HINP.out HNOW.out HT.out).mono ?_
    rintro e w2 ⟨rfl, cr0, st0, hb0⟩
    have HST0 := hideIt st0
    have HB0 := hideIt (HF.out.bel.trans hb0)
    clear st0 hb0
    go_wp2_with fail
    go_loopw [13] (fun i wx => ∃ t : Nat, t ≤ lr ∧ i = .int .i64 ((t : Int) + 1) ∧ Hid (Sil wx k id n lr input now t ∧ Below w.heap.size w wx)) (fun i _ => (lr + 1 - intOf i).toNat)
    case atStart => exact ⟨0, by omega, rfl, ⟨cr0, _, _, by have := HST0.out; rw [show decide ((lr : Int) ≤ ((0 : Nat) : Int)) = false from by simp; omega]; exact this⟩, HB0.out⟩
    case round =>
      obtain ⟨t, ht, rfl, HS⟩ := hrel
      by_cases hlt : t < lr
      · go_wp2_with fail
        refine (round_at wr k w.heap.size id n lr t _ input now (by omega) HS.out.1 HF.out.ap HS.out.2.size h1 hn hid hl2 hlt HIN.out (tab_below HT.out HS.out.2 h0)).mono ?_
        rintro e w3 ⟨rfl, cr3, S3, HS3⟩
        have hdv := HV.out (t + 1) (by omega)
        go_wp2_with fail
        refine (decision_any w3 k.bp id n k.bv k.br k.bsh lr _ _ _ _ HS3.out.1.p).mono ?_
        rintro e w4 ⟨rfl, kk, hw4⟩
        rw [hdv.1, hdv.2, show decOf now (t + 1) = true from by simp [decOf]]
        have HW4 := hideIt hw4
        have st4 : St w4 k id n (lr + 1) lr (decide ((lr : Int) ≤ ((t + 1 : Nat) : Int))) (decOf now (t + 1)) (valOf now input (t + 1)) (rndOf now (t + 1)) cr3 (Ls n id ((t + 1 : Nat) : Int)) ((List.replicate n 0).set id input) S3 (List.replicate n MAXI) := St.same (w := w3) (by rw [hw4]; rfl) HS3.out.1
        have HST4 := hideIt st4
        have HB4 : Hid (Below w.heap.size w w4) := HS.out.2.trans (by
          have := HS3.out.2.2
          rw [hw4]
          exact ⟨this.os, this.tape, this.output, this.size, this.block⟩)
        obtain ⟨b, he, hb⟩ := same_bool lr t hlt
        have HE := hideIt he
        clear hw4 st4 hdv he
        go_wp2_with fail
        refine (ended_any w4 k.bp id n k.bv k.br k.bsh lr _ _ _ _ HST4.out.p).mono ?_
        rintro e w5 ⟨rfl, rfl⟩
        rw [HE.out]
        go_wp2_with fail
        refine (heardAt_at w4 k id n (lr + 1) id (t + 1) _ lr (by omega) _ _ _ _ cr3 _ _ S3 _ HST4.out hid (by omega) q (by rw [HS3.out.2.1, HQQ.out])).mono ?_
        rintro e w5 ⟨rfl, rfl⟩
        go_wp2_with fail
        refine (latest_any w4 k.bp id n k.bv k.br k.bsh k.bl k.bi k.bh k.bs _ lr _ _ _ _ cr3 HST4.out.p HST4.out.v).mono ?_
        rintro e w5 ⟨rfl, rfl⟩
        go_wp2_with fail
        refine (shown_any w4 k.bp id n k.bv k.br k.bsh lr _ _ _ _ HST4.out.p).mono ?_
        rintro e w5 ⟨rfl, rfl⟩
        go_wp2_with fail
        go_loop [19] (fun i => ∃ j : Nat, j ≤ n ∧ i = .int .i64 j) (fun i => (n - intOf i).toNat)
        case atStart => exact ⟨0, by omega, rfl⟩
        case round =>
          obtain ⟨j, hj, rfl⟩ := hrel
          by_cases hjn : j < n
          · have csh : w4.cell? ⟨k.bsh, j, none⟩ = some (.int .i64 9223372036854775807) := by
              refine (HST4.out.sh.cell j).trans ((ints_get _ j (by simpa using hjn)).trans ?_)
              simp [hjn, MAXI]
            by_cases hji : j = id
            · have bj : ((j : Int) == (id : Int)) = true := beq_iff_eq.2 (by omega)
              have cl : w4.cell? ⟨k.bl, j, none⟩ = some (.int .i64 ((t : Int) + 1)) := by
                refine (HST4.out.l.cell j).trans ((ints_get _ j (by rw [Ls_len]; exact hjn)).trans ?_)
                rw [hji, Ls_id n id _ hid]
                rfl
              clear hji
              go_wp2_with fail
              go_round
              case rel => exact ⟨j + 1, by omega, by go_num⟩
              case measure => simp [intOf]; omega
            · have bj : ((j : Int) == (id : Int)) = false := beq_eq_false_iff_ne.2 (by omega)
              have cl : w4.cell? ⟨k.bl, j, none⟩ = some (.int .i64 (-1)) := by
                refine (HST4.out.l.cell j).trans ((ints_get _ j (by rw [Ls_len]; exact hjn)).trans ?_)
                rw [Ls_ne n id j _ hjn hji]
              clear hji
              go_wp2_with fail
              go_round
              case rel => exact ⟨j + 1, by omega, by go_num⟩
              case measure => simp [intOf]; omega
          · go_wp2_with fail
            go_roundw
            case rel => exact ⟨t + 1, by omega, by go_num, ⟨cr3, _, _, HST4.out⟩, HB4.out⟩
            case measure => simp [intOf]; omega
      · obtain rfl : lr = t := by omega
        go_wp2_with fail
        go_ret
        exact ⟨rfl, HS.out.2⟩
end Go.Proofs.Qxb6613198aDoor
