import Derived.Test.Qxb6613198aDoorDecode
namespace Go.Proofs.Qxb6613198aDoor
open Go.ChangeShapes Go.WideShapes Go.ChangeAt Go.RowKit
open Plain
set_option linter.unusedVariables false

theorem nextL_le (l : List UInt8) : (nextL l).length ≤ l.length := by
  unfold nextL
  split
  · simp
  · exact Nat.le_refl _

theorem rs_set {w : World} {br x i : Nat} {v a b c d : Value} (hx : ¬ br = x) (h : w.cell? ⟨br, 1, none⟩ = some a ∧ w.cell? ⟨br, 2, none⟩ = some b ∧ w.cell? ⟨br, 5, none⟩ = some c ∧ w.cell? ⟨br, 4, none⟩ = some d) :
    (w.setCell ⟨x, i, none⟩ v).cell? ⟨br, 1, none⟩ = some a ∧ (w.setCell ⟨x, i, none⟩ v).cell? ⟨br, 2, none⟩ = some b ∧ (w.setCell ⟨x, i, none⟩ v).cell? ⟨br, 5, none⟩ = some c ∧ (w.setCell ⟨x, i, none⟩ v).cell? ⟨br, 4, none⟩ = some d := by
  have g : ∀ j, (w.setCell ⟨x, i, none⟩ v).cell? ⟨br, j, none⟩ = w.cell? ⟨br, j, none⟩ := fun j =>
    World.cell?_of_block (w := w) (a := ⟨br, j, none⟩) (Below.heap_setCell w ⟨x, i, none⟩ v br hx)
  rw [g, g, g, g]
  exact h
theorem rs_drew {w : World} {br : Nat} {a b c d : Value} (h : w.cell? ⟨br, 1, none⟩ = some a ∧ w.cell? ⟨br, 2, none⟩ = some b ∧ w.cell? ⟨br, 5, none⟩ = some c ∧ w.cell? ⟨br, 4, none⟩ = some d) :
    w.drew.cell? ⟨br, 1, none⟩ = some a ∧ w.drew.cell? ⟨br, 2, none⟩ = some b ∧ w.drew.cell? ⟨br, 5, none⟩ = some c ∧ w.drew.cell? ⟨br, 4, none⟩ = some d := h

set_option maxHeartbeats 8000000 in
set_option maxRecDepth 100000 in
theorem decode_in (w : World) (B n br rl rf ri re fr : Nat) (v : Value) (l : List UInt8) (RL RF RI : List Int) (hr : Rcv w n br rl rf ri re RL RF RI) (ha : RAp B br rl rf ri re) (hB : B ≤ w.heap.size) (hv : BytB B w v l) (hl : l.length ≤ 1048576) (h1 : 1 ≤ n) (hn : n ≤ 64) (hfr : fr < n) :
    Calls Tryd.prog 23 #[.pointer (some ⟨br, 0, none⟩), v, .int .i64 fr, .int .i64 0] w fun e w' => e = .returned (.bool (msgEs n fr l).isSome) ∧ ∃ RL' RF' RI', Rcv w' n br rl rf ri re RL' RF' RI' ∧ (∀ es, msgEs n fr l = some es → es.length = n ∧ Says es RL' RF' RI') ∧ Keeps [br, rl, rf, ri, re] w w' := by
  have r0 := hr.r.cell 0
  have r4 := hr.r.cell 4
  have g4 := hr.r.frozen 4
  simp [recvC] at r0 r4
  have hbr := hr.r.lt
  have hlt : ∀ x ∈ [br, rl, rf, ri, re], x < w.heap.size := by
    have a1 := hr.r.lt; have a2 := hr.l.lt; have a3 := hr.f.lt; have a4 := hr.i.lt; have a5 := hr.e.lt
    intro x hx
    simp at hx
    omega
  have start : DI w ((w.setCell ⟨br, 4, none⟩ (.slice none 0 0)).alloc (.cells #[v] 25)) B n br rl rf ri re l v RL RF RI := by
    have k1 : Keeps [br] w (w.setCell ⟨br, 4, none⟩ (.slice none 0 0)) := (Keeps.refl _ _).setCell (by simp) _
    have k2 := k1.alloc (.cells #[v] 25)
    have nd := ha.nd
    simp at nd
    have g : ∀ x, x ≠ br → x ∉ [br] := fun x hx => by simpa using hx
    have e1 : Blk ((w.setCell ⟨br, 4, none⟩ (.slice none 0 0)).alloc (.cells #[v] 25)) w.heap.size #[v] 25 := by
      have := Blk.new (w.setCell ⟨br, 4, none⟩ (.slice none 0 0)) #[v] 25
      simpa using this
    have e2 : Blk ((w.setCell ⟨br, 4, none⟩ (.slice none 0 0)).alloc (.cells #[v] 25)) br (recvC n rl rf ri re (.slice none 0 0)) 51 := by
      have := hr.r.set 4 (.slice none 0 0)
      rw [recv_slot4] at this
      exact ((Keeps.refl [] _).alloc _).blk this (by simp)
    exact ⟨e1, hv.below (k2.below hB (fun x hx => ha.ge x (by simp at hx ⊢; omega))), hl, ⟨e2, k2.blk hr.l (g _ (by omega)), hr.ll, k2.blk hr.f (g _ (by omega)), hr.lf, k2.blk hr.i (g _ (by omega)), hr.li, k2.blk hr.e (g _ (by omega))⟩, k2.mono (by simp)⟩
  obtain ⟨ao, vn, vc, rfl, -⟩ := hv.slice
  have HS := hideIt start
  have HA := hideIt ha
  have HB := hideIt hB
  have HLT := hideIt hlt
  have HBR := hideIt hbr
  clear hr ha hv hB hl start hlt
  go_enter Tryd.func23, Tryd.ntmps23
  go_wp2_with (go_at_call 26; refine (everyone_any _ h1 hn _).mono ?_; rintro e w' ⟨rfl, rfl⟩)
  clear r0 r4 g4 hbr
  go_loopw [55] (fun i wr => ∃ (h : Nat) (es : List Ent) (lh : List UInt8) (vh : Value) (QL QF QI : List Int), h ≤ n ∧ i = .int .i64 h ∧ Hid (es.length = h ∧ Prog n l es lh ∧ DI w wr B n br rl rf ri re lh vh QL QF QI ∧ Says es QL QF QI)) (fun i _ => n - (intOf i).toNat)
  case atStart => exact ⟨0, [], l, _, RL, RF, RI, by omega, rfl, rfl, Prog.start n l, HS.out, ⟨fun _ h => by simp at h, fun _ h => by simp at h, fun _ h => by simp at h⟩⟩
  case round =>
    obtain ⟨h, es, lh, vh, QL, QF, QI, hh, rfl, HI⟩ := hrel
    clear HS
    by_cases hlt : h < n
    · rcases next_cases lh with ⟨s1, o1⟩ | ⟨s1, o1, x1, y1⟩ | ⟨c, k, s1, c1, o1, x1, l1⟩
      · have fin := hideIt (msgEs_bad (f := (fr : Int)) (HI.out.2.1.fail (by rw [HI.out.1]; exact hlt) (ent_none1 s1)))
        have O1 := hideIt o1
        clear s1 o1
        go_wp2_with fail
        refine (next_any B w.heap.size _ vh lh HI.out.2.2.1.x HB.out HI.out.2.2.1.y HI.out.2.2.1.len).mono ?_
        rintro e w1 ⟨rfl, v1, HN1⟩
        have HD1 := hideIt (HI.out.2.2.1.next HB.out (nextL_le lh) HLT.out HN1.out)
        rw [O1.out]
        go_wp2
        go_ret
        exact ⟨by rw [fin.out]; rfl, QL, QF, QI, HD1.out.r, (fun es h => by rw [fin.out] at h; cases h), HD1.out.k⟩
      · have fin := hideIt (msgEs_bad (f := (fr : Int)) (HI.out.2.1.fail (by rw [HI.out.1]; exact hlt) (ent_none1 s1)))
        have O1 := hideIt o1
        obtain ⟨x, hx⟩ : ∃ x, x = nextX lh := ⟨_, rfl⟩
        rw [← hx] at x1 y1
        have HX := hideIt hx
        have x1' : (1 : Int) < (x : Int) := by omega
        clear s1 o1 hx x1 y1
        go_wp2_with fail
        refine (next_any B w.heap.size _ vh lh HI.out.2.2.1.x HB.out HI.out.2.2.1.y HI.out.2.2.1.len).mono ?_
        rintro e w1 ⟨rfl, v1, HN1⟩
        have HD1 := hideIt (HI.out.2.2.1.next HB.out (nextL_le lh) HLT.out HN1.out)
        rw [O1.out, ← HX.out]
        go_wp2
        go_ret
        exact ⟨by rw [fin.out]; rfl, QL, QF, QI, HD1.out.r, (fun es h => by rw [fin.out] at h; cases h), HD1.out.k⟩
      · rcases (show c = 0 ∨ c = 1 by omega) with rfl | rfl
        · have O1 := hideIt (And.intro o1 x1)
          have L1 := hideIt l1
          have EN := hideIt (ent_zero s1)
          clear s1 o1 x1 l1 c1
          go_wp2_with fail
          refine (next_any B w.heap.size _ vh lh HI.out.2.2.1.x HB.out HI.out.2.2.1.y HI.out.2.2.1.len).mono ?_
          rintro e w1 ⟨rfl, v1, HN1⟩
          have HD1 := hideIt (HI.out.2.2.1.next HB.out (nextL_le lh) HLT.out HN1.out)
          rw [O1.out.1, O1.out.2]
          have D1 := HD1.out
          rw [L1.out] at D1
          have HE1 := hideIt D1
          clear D1
          obtain ⟨q1, q2, q3, q4, q5, cl, cf, ci, ce, fl, ff, fi, fe⟩ := HE1.out.facts h hlt
          have nd := HA.out.nd
          simp only [List.nodup_cons, List.mem_cons, List.not_mem_nil, not_or, or_false] at nd
          obtain ⟨⟨n1, n2, n3, n4⟩, ⟨n5, n6, n7⟩, ⟨n8, n9⟩, n10, _⟩ := nd
          have i1 : (0 : Int) ≤ (h : Int) := by omega
          have i2 : (h : Int) < (n : Int) := by omega
          have i3 : (0 : Int) ≤ (h : Int) + 1 := by omega
          have i4 : (h : Int) + 1 < (n : Int) + 1 := by omega
          have i6 : ((h : Int) + 1).toNat = h + 1 := by omega
          have i7 : IntKind.i64.wrap ((h : Int) + 1) = (h : Int) + 1 := by rw [IntKind.wrap_i64]; omega
          go_wp2_with fail
          refine wp_loop_rounds 1 ?_
          rw [rounds_succ]
          go_wp2_with fail
          go_region_held3 (fun w' => w'.cell? ⟨br, 1, none⟩ = some (.slice (some ⟨rl, 0, none⟩) n n) ∧ w'.cell? ⟨br, 2, none⟩ = some (.slice (some ⟨rf, 0, none⟩) n n) ∧ w'.cell? ⟨br, 5, none⟩ = some (.slice (some ⟨re, 0, none⟩) (n + 1) (n + 1)) ∧ w'.cell? ⟨br, 4, none⟩ = some (.slice none 0 0)) (first | exact rs_drew (rs_set n1 ⟨q1, q2, q5, q4⟩) | exact rs_drew (rs_set n2 (rs_set n1 ⟨q1, q2, q5, q4⟩)) | exact rs_drew (rs_set n4 (rs_set n2 (rs_set n1 ⟨q1, q2, q5, q4⟩))) | go_keep) (fail)
          all_goals go_wp2_with fail
          have sy := HI.out.2.2.2.step (RI' := QI) ⟨0, 0, 0⟩ (by rw [HE1.out.r.ll, HI.out.1]; exact hlt) (by rw [HE1.out.r.lf, HI.out.1]; exact hlt) (fun _ _ => rfl) (fun h => by cases h)
          rw [HI.out.1] at sy
          refine ⟨⟨h + 1, es ++ [⟨0, 0, 0⟩], _, _, _, _, QI, by omega, by go_num, by simp [HI.out.1], HI.out.2.1.step (by rw [HI.out.1]; exact hlt) EN.out (Or.inl ⟨rfl, rfl, rfl⟩), (HE1.out.set3 HB.out HA.out HLT.out h (-1) 0).drew, sy⟩, by simp [intOf]; omega⟩
        · have O1 := hideIt (And.intro o1 x1)
          have L1 := hideIt l1
          have S1 := hideIt s1
          clear s1 o1 x1 l1 c1
          go_wp2_with fail
          refine (next_any B w.heap.size _ vh lh HI.out.2.2.1.x HB.out HI.out.2.2.1.y HI.out.2.2.1.len).mono ?_
          rintro e w1 ⟨rfl, v1, HN1⟩
          have HD1 := hideIt (HI.out.2.2.1.next HB.out (nextL_le lh) HLT.out HN1.out)
          rw [O1.out.1, O1.out.2]
          have D1 := HD1.out
          rw [L1.out] at D1
          have HE1 := hideIt D1
          clear D1
          rcases next_cases (lh.drop k) with ⟨s2, o2⟩ | ⟨s2, o2, x2, y2⟩ | ⟨c', k2, s2, c2, o2, x2, l2⟩
          · have fin := hideIt (msgEs_bad (f := (fr : Int)) (HI.out.2.1.fail (by rw [HI.out.1]; exact hlt) (ent_none2 S1.out s2)))
            have O2 := hideIt o2
            clear s2 o2
            go_wp2_with fail
            refine (next_any B w.heap.size _ v1 (lh.drop k) HE1.out.x HB.out HE1.out.y HE1.out.len).mono ?_
            rintro e w2 ⟨rfl, v2, HN2⟩
            have HD2 := hideIt (HE1.out.next HB.out (nextL_le (lh.drop k)) HLT.out HN2.out)
            rw [O2.out]
            go_wp2
            go_ret
            exact ⟨by rw [fin.out]; rfl, QL, QF, QI, HD2.out.r, (fun es h => by rw [fin.out] at h; cases h), HD2.out.k⟩
          · have fin := hideIt (msgEs_bad (f := (fr : Int)) (HI.out.2.1.fail (by rw [HI.out.1]; exact hlt) (ent_none2 S1.out s2)))
            have O2 := hideIt o2
            obtain ⟨x, hx⟩ : ∃ x, x = nextX (lh.drop k) := ⟨_, rfl⟩
            rw [← hx] at x2 y2
            have HX := hideIt hx
            have x2' : (1 : Int) < (x : Int) := by omega
            clear s2 o2 hx x2 y2
            go_wp2_with fail
            refine (next_any B w.heap.size _ v1 (lh.drop k) HE1.out.x HB.out HE1.out.y HE1.out.len).mono ?_
            rintro e w2 ⟨rfl, v2, HN2⟩
            have HD2 := hideIt (HE1.out.next HB.out (nextL_le (lh.drop k)) HLT.out HN2.out)
            rw [O2.out, ← HX.out]
            go_wp2
            go_ret
            exact ⟨by rw [fin.out]; rfl, QL, QF, QI, HD2.out.r, (fun es h => by rw [fin.out] at h; cases h), HD2.out.k⟩
          · have HS2 := hideIt s2
            have O2 := hideIt (And.intro o2 x2)
            have L2 := hideIt l2
            clear s2 o2 x2 l2
            go_wp2_with fail
            refine (next_any B w.heap.size _ v1 (lh.drop k) HE1.out.x HB.out HE1.out.y HE1.out.len).mono ?_
            rintro e w2 ⟨rfl, v2, HN2⟩
            have HD2 := hideIt (HE1.out.next HB.out (nextL_le (lh.drop k)) HLT.out HN2.out)
            rw [O2.out.1, O2.out.2]
            have D2 := HD2.out
            rw [L2.out] at D2
            have HE2 := hideIt D2
            clear D2
            rcases (show c' = 0 ∨ c' = 1 by omega) with rfl | rfl
            · clear c2
              rcases next_cases ((lh.drop k).drop k2) with ⟨s3, o3⟩ | ⟨s3, o3, x3, y3⟩ | ⟨v, k3, s3, c3, o3, x3, l3⟩
              · have fin := hideIt (msgEs_bad (f := (fr : Int)) (HI.out.2.1.fail (by rw [HI.out.1]; exact hlt) (ent_none3 S1.out HS2.out s3)))
                have O3 := hideIt o3
                clear s3 o3
                go_wp2_with fail
                refine (next_any B w.heap.size _ v2 ((lh.drop k).drop k2) HE2.out.x HB.out HE2.out.y HE2.out.len).mono ?_
                rintro e w3 ⟨rfl, v3, HN3⟩
                have HD3 := hideIt (HE2.out.next HB.out (nextL_le ((lh.drop k).drop k2)) HLT.out HN3.out)
                rw [O3.out]
                go_wp2
                go_ret
                exact ⟨by rw [fin.out]; rfl, QL, QF, QI, HD3.out.r, (fun es h => by rw [fin.out] at h; cases h), HD3.out.k⟩
              · have fin := hideIt (msgEs_bad (f := (fr : Int)) (HI.out.2.1.fail (by rw [HI.out.1]; exact hlt) (ent_none3 S1.out HS2.out s3)))
                have O3 := hideIt o3
                obtain ⟨x, hx⟩ : ∃ x, x = nextX ((lh.drop k).drop k2) := ⟨_, rfl⟩
                rw [← hx] at x3 y3
                have HX := hideIt hx
                have x3' : (1 : Int) < (x : Int) := by omega
                clear s3 o3 hx x3 y3
                go_wp2_with fail
                refine (next_any B w.heap.size _ v2 ((lh.drop k).drop k2) HE2.out.x HB.out HE2.out.y HE2.out.len).mono ?_
                rintro e w3 ⟨rfl, v3, HN3⟩
                have HD3 := hideIt (HE2.out.next HB.out (nextL_le ((lh.drop k).drop k2)) HLT.out HN3.out)
                rw [O3.out, ← HX.out]
                go_wp2
                go_ret
                exact ⟨by rw [fin.out]; rfl, QL, QF, QI, HD3.out.r, (fun es h => by rw [fin.out] at h; cases h), HD3.out.k⟩
              · have EN := hideIt (ent_in S1.out HS2.out s3)
                have O3 := hideIt (And.intro o3 x3)
                have L3 := hideIt l3
                have c3' : (v : Int) ≤ 1 := by omega
                have i8 : IntKind.i64.wrap (v : Int) = (v : Int) := by rw [IntKind.wrap_i64]; omega
                have C3 := hideIt c3
                clear s3 o3 x3 l3 c3
                go_wp2_with fail
                refine (next_any B w.heap.size _ v2 ((lh.drop k).drop k2) HE2.out.x HB.out HE2.out.y HE2.out.len).mono ?_
                rintro e w3 ⟨rfl, v3, HN3⟩
                have HD3 := hideIt (HE2.out.next HB.out (nextL_le ((lh.drop k).drop k2)) HLT.out HN3.out)
                rw [O3.out.1, O3.out.2]
                have D3 := HD3.out
                rw [L3.out] at D3
                obtain ⟨-, -, p3, -, -, -, -, pi, -, -, -, pf, -⟩ := D3.facts h hlt
                obtain ⟨W, hW⟩ : ∃ W, W = w3.setCell ⟨ri, h, none⟩ (.int .i64 (v : Int)) := ⟨_, rfl⟩
                have D4 := D3.setI HB.out HA.out HLT.out h (v : Int)
                rw [← hW] at D4
                have HE4 := hideIt D4
                have HW := hideIt hW
                clear D3 D4 hW
                have i1 : (0 : Int) ≤ (h : Int) := by omega
                have i2 : (h : Int) < (n : Int) := by omega
                have i3 : (0 : Int) ≤ (h : Int) + 1 := by omega
                have i4 : (h : Int) + 1 < (n : Int) + 1 := by omega
                have i6 : ((h : Int) + 1).toNat = h + 1 := by omega
                have i7 : IntKind.i64.wrap ((h : Int) + 1) = (h : Int) + 1 := by rw [IntKind.wrap_i64]; omega
                go_wp2_with fail
                rw [← HW.out]
                obtain ⟨q1, q2, q3, q4, q5, cl, cf, ci, ce, fl, ff, fi, fe⟩ := HE4.out.facts h hlt
                have nd := HA.out.nd
                simp only [List.nodup_cons, List.mem_cons, List.not_mem_nil, not_or, or_false] at nd
                obtain ⟨⟨n1, n2, n3, n4⟩, ⟨n5, n6, n7⟩, ⟨n8, n9⟩, n10, _⟩ := nd
                clear p3 pi pf
                refine wp_loop_rounds 1 ?_
                rw [rounds_succ]
                go_wp2_with fail
                go_region_held3 (fun w' => w'.cell? ⟨br, 1, none⟩ = some (.slice (some ⟨rl, 0, none⟩) n n) ∧ w'.cell? ⟨br, 2, none⟩ = some (.slice (some ⟨rf, 0, none⟩) n n) ∧ w'.cell? ⟨br, 5, none⟩ = some (.slice (some ⟨re, 0, none⟩) (n + 1) (n + 1)) ∧ w'.cell? ⟨br, 4, none⟩ = some (.slice none 0 0)) (first | exact rs_drew (rs_set n1 ⟨q1, q2, q5, q4⟩) | exact rs_drew (rs_set n2 (rs_set n1 ⟨q1, q2, q5, q4⟩)) | exact rs_drew (rs_set n4 (rs_set n2 (rs_set n1 ⟨q1, q2, q5, q4⟩))) | go_keep) (fail)
                all_goals go_wp2_with fail
                have sy := HI.out.2.2.2.step (RI' := (QI.set h (v : Int))) ⟨1, 0, v⟩ (by rw [HE4.out.r.ll, HI.out.1]; exact hlt) (by rw [HE4.out.r.lf, HI.out.1]; exact hlt) (fun j hj => getD_set_ne _ _ _ _ (by rw [HI.out.1] at hj; omega)) (fun _ _ => by rw [HI.out.1]; exact getD_set_eq _ _ _ (by rw [HI.out.2.2.1.r.li]; exact hlt))
                rw [HI.out.1] at sy
                refine ⟨⟨h + 1, es ++ [⟨1, 0, v⟩], _, _, _, _, (QI.set h (v : Int)), by omega, by go_num, by simp [HI.out.1], HI.out.2.1.step (by rw [HI.out.1]; exact hlt) EN.out (Or.inr (Or.inr ⟨rfl, rfl, C3.out⟩)), (HE4.out.set3 HB.out HA.out HLT.out h (0) 0).drew, sy⟩, by simp [intOf]; omega⟩
            · have EN := hideIt (ent_one S1.out HS2.out)
              clear c2
              obtain ⟨q1, q2, q3, q4, q5, cl, cf, ci, ce, fl, ff, fi, fe⟩ := HE2.out.facts h hlt
              have nd := HA.out.nd
              simp only [List.nodup_cons, List.mem_cons, List.not_mem_nil, not_or, or_false] at nd
              obtain ⟨⟨n1, n2, n3, n4⟩, ⟨n5, n6, n7⟩, ⟨n8, n9⟩, n10, _⟩ := nd
              have i1 : (0 : Int) ≤ (h : Int) := by omega
              have i2 : (h : Int) < (n : Int) := by omega
              have i3 : (0 : Int) ≤ (h : Int) + 1 := by omega
              have i4 : (h : Int) + 1 < (n : Int) + 1 := by omega
              have i6 : ((h : Int) + 1).toNat = h + 1 := by omega
              have i7 : IntKind.i64.wrap ((h : Int) + 1) = (h : Int) + 1 := by rw [IntKind.wrap_i64]; omega
              go_wp2_with fail
              refine wp_loop_rounds 1 ?_
              rw [rounds_succ]
              go_wp2_with fail
              go_region_held3 (fun w' => w'.cell? ⟨br, 1, none⟩ = some (.slice (some ⟨rl, 0, none⟩) n n) ∧ w'.cell? ⟨br, 2, none⟩ = some (.slice (some ⟨rf, 0, none⟩) n n) ∧ w'.cell? ⟨br, 5, none⟩ = some (.slice (some ⟨re, 0, none⟩) (n + 1) (n + 1)) ∧ w'.cell? ⟨br, 4, none⟩ = some (.slice none 0 0)) (first | exact rs_drew (rs_set n1 ⟨q1, q2, q5, q4⟩) | exact rs_drew (rs_set n2 (rs_set n1 ⟨q1, q2, q5, q4⟩)) | exact rs_drew (rs_set n4 (rs_set n2 (rs_set n1 ⟨q1, q2, q5, q4⟩))) | go_keep) (fail)
              all_goals go_wp2_with fail
              have sy := HI.out.2.2.2.step (RI' := QI) ⟨1, 1, 0⟩ (by rw [HE2.out.r.ll, HI.out.1]; exact hlt) (by rw [HE2.out.r.lf, HI.out.1]; exact hlt) (fun _ _ => rfl) (fun _ h => by cases h)
              rw [HI.out.1] at sy
              refine ⟨⟨h + 1, es ++ [⟨1, 1, 0⟩], _, _, _, _, QI, by omega, by go_num, by simp [HI.out.1], HI.out.2.1.step (by rw [HI.out.1]; exact hlt) EN.out (Or.inr (Or.inl ⟨rfl, rfl, rfl⟩)), (HE2.out.set3 HB.out HA.out HLT.out h (0) 1).drew, sy⟩, by simp [intOf]; omega⟩
    · obtain rfl : h = n := by omega
      have hp := HI.out.2.1.all HI.out.1
      have hD := HI.out.2.2.1
      have hS := HI.out.2.2.2
      obtain ⟨q1, q2, -, -, -, cl, cf, -⟩ := hD.facts fr hfr
      obtain ⟨ao', vn', vc', rfl, hvn⟩ := hD.y.slice
      have cx := hD.x.cell 0
      simp at cx
      rw [hS.l fr (by rw [HI.out.1]; exact hfr)] at cl
      rw [hS.f fr (by rw [HI.out.1]; exact hfr)] at cf
      have HP := hideIt hp
      have HD := hideIt hD
      have HSS := hideIt hS
      have i1 : (0 : Int) ≤ (fr : Int) := by omega
      have i2 : (fr : Int) < (h : Int) := by omega
      obtain ⟨c, hc⟩ : ∃ c, c = (entAt es fr).c := ⟨_, rfl⟩
      obtain ⟨x, hx⟩ : ∃ x, x = (entAt es fr).x := ⟨_, rfl⟩
      rw [← hc] at cl
      rw [← hx] at cf
      have hok := entAt_ok HI.out.2.1.ok fr (by rw [HI.out.1]; exact hfr)
      have hcx : c ≤ 1 ∧ x ≤ 1 := by rcases hok with h | h | h <;> omega
      have HC := hideIt hc
      have HX := hideIt hx
      clear hp hD hS hc hx hok hlt hh
      by_cases hz : vn' = 0
      · have HNIL := hideIt (List.eq_nil_of_length_eq_zero (hvn.symm.trans hz))
        subst hz
        clear hvn
        rcases (show c = 0 ∨ c = 1 by omega) with rfl | rfl
        · have fin := hideIt (msgEs_not (n := h) (f := (fr : Int)) (by rw [HP.out, HNIL.out]) (by rw [Int.toNat_natCast, ← HC.out, ← HX.out]; simp))
          go_wp2
          go_ret
          exact ⟨by rw [fin.out]; rfl, QL, QF, QI, HD.out.r, (fun es' h' => by rw [fin.out] at h'; cases h'), HD.out.k⟩
        · rcases (show x = 0 ∨ x = 1 by omega) with rfl | rfl
          · have fin := hideIt (msgEs_yes (f := (fr : Int)) ⟨i1, i2⟩ (by rw [HP.out, HNIL.out]) (by rw [Int.toNat_natCast, ← HC.out, ← HX.out]; exact ⟨rfl, rfl⟩))
            go_wp2
            go_ret
            exact ⟨by rw [fin.out]; rfl, QL, QF, QI, HD.out.r, (fun es' h' => by rw [fin.out] at h'; cases h'; exact ⟨HI.out.1, HSS.out⟩), HD.out.k⟩
          · have fin := hideIt (msgEs_not (n := h) (f := (fr : Int)) (by rw [HP.out, HNIL.out]) (by rw [Int.toNat_natCast, ← HC.out, ← HX.out]; simp))
            go_wp2
            go_ret
            exact ⟨by rw [fin.out]; rfl, QL, QF, QI, HD.out.r, (fun es' h' => by rw [fin.out] at h'; cases h'), HD.out.k⟩
      · have fin := hideIt (msgEs_left (f := (fr : Int)) HP.out (fun e => hz (by rw [hvn, e]; rfl)))
        have hz' : ((vn' : Int) == 0) = false := beq_eq_false_iff_ne.2 (by omega)
        clear hvn hz
        go_wp2
        go_ret
        exact ⟨by rw [fin.out]; rfl, QL, QF, QI, HD.out.r, (fun es' h' => by rw [fin.out] at h'; cases h'), HD.out.k⟩
end Go.Proofs.Qxb6613198aDoor
