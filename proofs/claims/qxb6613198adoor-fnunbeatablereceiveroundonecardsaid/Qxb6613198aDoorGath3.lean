import Derived.Test.Qxb6613198aDoorShown
namespace Go.Proofs.Qxb6613198aDoor
open Go.ChangeShapes Go.WideShapes Go.ChangeAt Go.RowKit
open Plain
set_option linter.unusedVariables false
set_option linter.unusedSimpArgs false

/-- What gather has done behind j messages. -/
structure GJ (w wr : World) (k : Blks) (B rl rf ri re id n width : Nat) (last : Int) (ended dec : Bool) (val rnd : Int) (cr : Value) (S : List Int) (s : PS) : Prop where
  g : GS wr k rl rf ri re id n width last ended dec val rnd cr S s
  b : Below B w wr
  z : w.heap.size ≤ wr.heap.size

theorem GS.same {w w' : World} (hh : w'.heap = w.heap) {k : Blks} {rl rf ri re id n width : Nat} {last : Int} {ended dec : Bool} {val rnd : Int} {cr : Value} {S : List Int} {s : PS} (h : GS w k rl rf ri re id n width last ended dec val rnd cr S s) : GS w' k rl rf ri re id n width last ended dec val rnd cr S s := by
  obtain ⟨RL, RF, RI, hr⟩ := h.rc
  have g : ∀ {b : Nat} {c : Array Value} {t : TypeId}, Blk w b c t → Blk w' b c t := fun hb => by unfold Blk at *; rw [hh]; exact hb
  exact ⟨h.st.same hh, ⟨RL, RF, RI, g hr.r, g hr.l, hr.ll, g hr.f, hr.lf, g hr.i, hr.li, g hr.e⟩, h.low⟩
theorem stepM_none {n : Nat} {s : PS} {f : Int} {l : List UInt8} (h : msgEs n f l = none) : stepM n s f l = s := by unfold stepM; rw [h]
theorem stepM_no {n : Nat} {s : PS} {f : Int} {l : List UInt8} {es : List Ent} (h : msgEs n f l = some es) (h2 : okT es s.L n = false) : stepM n s f l = s := by unfold stepM; rw [h]; simp [h2]
theorem stepM_yes {n : Nat} {s : PS} {f : Int} {l : List UInt8} {es : List Ent} (h : msgEs n f l = some es) (h2 : okT es s.L n = true) : stepM n s f l = ⟨takeL es s.L, takeI es s.L s.I, minS es s.S, orBit s.H f.toNat⟩ := by unfold stepM; rw [h]; simp [h2]

set_option maxHeartbeats 4000000 in
set_option maxRecDepth 100000 in
theorem gather_any (w : World) (k : Blks) (B rl rf ri re id n width bm : Nat) (last : Int) (ended dec : Bool) (val rnd : Int) (cr : Value) (S : List Int) (s : PS) (ms : List Msg) (h : GS w k rl rf ri re id n width last ended dec val rnd cr S s) (ha : GAp k B rl rf ri re) (hB : B ≤ w.heap.size)
    (hm : Msgs B w bm ms) (hml : ms.length ≤ 65536) (h1 : 1 ≤ n) (hn : n ≤ 64) (hw : 2 ≤ width) (hw2 : width ≤ 70000) :
    Calls Tryd.prog 18 #[.pointer (some ⟨k.bp, 0, none⟩), .int .i64 1, .slice (some ⟨bm, 0, none⟩) ms.length ms.length] w fun e w' => e = .returned (.int .u64 (foldM n ⟨s.L, s.I, List.replicate n MAXI, 0⟩ ms).H) ∧ GJ w w' k B rl rf ri re id n width last ended dec val rnd cr S (foldM n ⟨s.L, s.I, List.replicate n MAXI, 0⟩ ms) := by
  have c4 := h.st.p.cell 4
  simp [procC] at c4
  obtain ⟨N, hN⟩ : ∃ N, N = ms.length := ⟨_, rfl⟩
  rw [← hN] at hml ⊢
  have HN := hideIt hN
  have HG := hideIt h
  have HA := hideIt ha
  have HB := hideIt hB
  have HM := hideIt hm
  clear h ha hB hm hN
  go_enter Tryd.func18, Tryd.ntmps18
  go_wp2_with fail
  go_loopw [17] (fun i wr => ∃ j : Nat, j ≤ n ∧ i = .int .i64 j ∧ Hid (GJ w wr k B rl rf ri re id n width last ended dec val rnd cr S ⟨s.L, s.I, fillTo s.S j MAXI, 0⟩)) (fun i _ => n - (intOf i).toNat)
  case atStart => exact ⟨0, by omega, rfl, ⟨by rw [fillTo_zero]; exact HG.out.st, HG.out.rc, HG.out.low⟩, Below.refl _ _, Nat.le_refl _⟩
  case round =>
    obtain ⟨j, hj, rfl, HJ⟩ := hrel
    clear c4
    by_cases hlt : j < n
    · have st := HJ.out.g.st
      have d4 := st.p.cell 4
      simp [procC] at d4
      have dk := (st.sh.cell j).trans (ints_get _ j (by rw [st.lsh]; exact hlt))
      have df := st.sh.frozen j
      have ls : s.S.length = n := HG.out.st.lsh
      have st' := st.setSh HA.out.a j 9223372036854775807
      rw [show (9223372036854775807 : Int) = MAXI from rfl, fillTo_succ _ _ _ (by rw [ls]; exact hlt)] at st'
      obtain ⟨RL, RF, RI, hr⟩ := HJ.out.g.rc
      have hr' := hr.setSh (bsh := k.bsh) (fun x hx => (HA.out.ne x hx).2.2.1) j (.int .i64 MAXI)
      have kk := ((Keeps.refl [k.bsh] wr).setCell (b := k.bsh) (i := j) (by simp) (.int .i64 MAXI))
      have fin : Hid (GJ w (wr.setCell ⟨k.bsh, j, none⟩ (.int .i64 MAXI)) k B rl rf ri re id n width last ended dec val rnd cr S ⟨s.L, s.I, fillTo s.S (j + 1) MAXI, 0⟩) :=
        ⟨⟨st', ⟨RL, RF, RI, hr'⟩, HJ.out.g.low⟩, HJ.out.b.trans (kk.below (Nat.le_trans HB.out HJ.out.z) (by have := HA.out.a.above; simp; omega)), Nat.le_trans HJ.out.z kk.size⟩
      clear st st' hr hr' kk ls
      go_wp2_with fail
      go_roundw
      case rel => exact ⟨j + 1, by omega, by go_num, fin.out⟩
      case measure => simp [intOf]; omega
    · obtain rfl : j = n := by omega
      have e0 : fillTo s.S j MAXI = List.replicate j MAXI := by have := fillTo_all s.S MAXI; rw [HG.out.st.lsh] at this; exact this
      have hJ := HJ.out
      rw [e0] at hJ
      have HJ' := hideIt hJ
      clear e0 hJ HJ
      go_wp2_with fail
      go_loopw [29, 6] (fun i hd wr => ∃ i' : Nat, i' ≤ N ∧ i = .int .i64 i' ∧ ∃ s' : PS, hd = .int .u64 s'.H ∧ Hid (s' = foldM j ⟨s.L, s.I, List.replicate j MAXI, 0⟩ (ms.take i') ∧ GJ w wr k B rl rf ri re id j width last ended dec val rnd cr S s')) (fun i _ _ => N - (intOf i).toNat)
      case atStart => exact ⟨0, by omega, rfl, ⟨s.L, s.I, List.replicate j MAXI, 0⟩, rfl, rfl, HJ'.out⟩
      case round =>
        obtain ⟨i, hi, rfl, s', rfl, HS⟩ := hrel
        by_cases hlt' : i < N
        · have hil : i < ms.length := by rw [← HN.out]; exact hlt'
          have hM := HM.out.below HS.out.2.b
          have hb := hM.b i hil
          have hbw := HM.out.b i hil
          have cf := hM.f i hil
          have ct := hM.t i hil
          have cp := hM.p i hil
          have hfold := foldM_take j ⟨s.L, s.I, List.replicate j MAXI, 0⟩ ms i hil
          rw [← HS.out.1] at hfold
          obtain ⟨m, hmi⟩ : ∃ m, m = ms[i] := ⟨_, rfl⟩
          rw [← hmi] at hb cf ct cp hfold hbw
          obtain ⟨f, t, pv, l⟩ := m
          simp only at hb cf ct cp hfold hbw
          obtain ⟨W1, hW1⟩ : ∃ W1, W1 = wr.alloc (.cells #[.int .i64 f, .int .i64 t, pv] 28) := ⟨_, rfl⟩
          have hmb : wr.heap.size ∉ k.avoid := fun hx => by have := HS.out.2.g.st.av _ hx; omega
          have g1 : GS W1 k rl rf ri re id j width last ended dec val rnd cr S s' := by
            rw [hW1]
            obtain ⟨RL, RF, RI, hr⟩ := HS.out.2.g.rc
            exact ⟨HS.out.2.g.st.alloc _, ⟨RL, RF, RI, hr.alloc _⟩, HS.out.2.g.low⟩
          have bm1 : Blk W1 wr.heap.size #[.int .i64 f, .int .i64 t, pv] 28 := by rw [hW1]; exact Blk.new _ _ _
          have z1 : wr.heap.size ≤ W1.heap.size := by rw [hW1]; simp
          have bel1 : Below B w W1 := by
            rw [hW1]
            exact HS.out.2.b.trans (((Keeps.refl [] wr).alloc _).below (Nat.le_trans HB.out HS.out.2.z) (by simp))
          obtain ⟨ao, vn, vc, rfl, -⟩ := hb.1.slice
          have HF := hideIt hfold
          have HBW := hideIt hbw
          have HMB := hideIt hmb
          have G1 := hideIt g1
          have BM1 := hideIt bm1
          have Z1 := hideIt (And.intro z1 (Nat.le_trans HS.out.2.z z1))
          have BEL1 := hideIt bel1
          have HW1 := hideIt hW1
          have q1 : W1.cell? ⟨k.bp, 3, none⟩ = some (.pointer (some ⟨k.br, 0, none⟩)) := (g1.st.p.cell 3).trans rfl
          have q2 : W1.cell? ⟨k.bp, 2, none⟩ = some (.pointer (some ⟨k.bv, 0, none⟩)) := (g1.st.p.cell 2).trans rfl
          have q3 : W1.cell? ⟨wr.heap.size, 2, none⟩ = some (.slice ao vn vc) := (bm1.cell 2).trans rfl
          have q4 : W1.cell? ⟨wr.heap.size, 0, none⟩ = some (.int .i64 f) := (bm1.cell 0).trans rfl
          obtain ⟨mb, hmbe⟩ : ∃ mb, mb = wr.heap.size := ⟨_, rfl⟩
          clear hM hb hbw hfold hmi hmb g1 bm1 z1 bel1 hW1
          go_wp2_with fail
          rw [← HW1.out]
          rw [← hmbe] at q3 q4 HMB BM1 ⊢
          have Bd : Below B w W1.drew := ⟨BEL1.out.os, BEL1.out.tape, BEL1.out.output, BEL1.out.size, BEL1.out.block⟩
          have HDEC := hideIt (decode_at w W1.drew k B rl rf ri re id j width mb last ended dec val rnd cr S s' f t (.slice ao vn vc) l (GS.same (w := W1) (w' := W1.drew) rfl G1.out) HA.out (Nat.le_trans HB.out Z1.out.2) Bd HBW.out.1 HBW.out.2 BM1.out HMB.out h1 hn)
          have w0 : IntKind.i64.wrap 0 = 0 := by kernel_rfl
          clear Bd hmbe cf ct cp
          rcases hme : msgEs j f l with _ | es
          · rw [hme, show Option.isSome (none : Option (List Ent)) = false from rfl] at HDEC
            have fin := hideIt (stepM_none (s := s') hme)
            refine wp_region_held_drew (S := (fun w' => w'.cell? ⟨k.bp, 3, none⟩ = some (.pointer (some ⟨k.br, 0, none⟩)) ∧ w'.cell? ⟨k.bp, 2, none⟩ = some (.pointer (some ⟨k.bv, 0, none⟩)) ∧ w'.cell? ⟨mb, 2, none⟩ = some (.slice ao vn vc) ∧ w'.cell? ⟨mb, 0, none⟩ = some (.int .i64 f))) (by kernel_rfl) ⟨q1, q2, q3, q4⟩ (fun hS => ?_)
            refine wpAnyH_take (i := 0) (v := ?_) rfl (by kernel_rfl) (by kernel_rfl) (by kernel_rfl) (fun _ _ _ h => h) (Or.inl ⟨by rfl, by intro w hSw; obtain ⟨z1, z2, z3, z4⟩ := hSw; go_simp; with_reducible rfl⟩) (by assumption) ?_
            simp only [Act.put, List.getElem_toArray, List.getElem_cons_succ, List.getElem_cons_zero, List.setIfInBounds_toArray, List.set_cons_zero, List.set_cons_succ]
            refine wpAnyH_take (i := 1) (v := ?_) rfl (by kernel_rfl) (by kernel_rfl) (by kernel_rfl) (fun _ _ _ h => h) (Or.inl ⟨by rfl, by intro w hSw; obtain ⟨z1, z2, z3, z4⟩ := hSw; go_simp; with_reducible rfl⟩) (by assumption) ?_
            simp only [Act.put, List.getElem_toArray, List.getElem_cons_succ, List.getElem_cons_zero, List.setIfInBounds_toArray, List.set_cons_zero, List.set_cons_succ]
            refine wpAnyH_take (i := 2) (v := ?_) rfl (by kernel_rfl) (by kernel_rfl) (by kernel_rfl) (fun _ _ _ h => h) (Or.inl ⟨by rfl, by intro w hSw; obtain ⟨z1, z2, z3, z4⟩ := hSw; go_simp; with_reducible rfl⟩) (by assumption) ?_
            simp only [Act.put, List.getElem_toArray, List.getElem_cons_succ, List.getElem_cons_zero, List.setIfInBounds_toArray, List.set_cons_zero, List.set_cons_succ]
            refine wpAnyH_take (i := 3) (v := ?_) rfl (by kernel_rfl) (by kernel_rfl) (by kernel_rfl) (fun _ _ _ h => h) (Or.inl ⟨by rfl, by intro w hSw; obtain ⟨z1, z2, z3, z4⟩ := hSw; go_simp; with_reducible rfl⟩) (by assumption) ?_
            simp only [Act.put, List.getElem_toArray, List.getElem_cons_succ, List.getElem_cons_zero, List.setIfInBounds_toArray, List.set_cons_zero, List.set_cons_succ]
            refine wpAnyH_take (i := 4) (v := ?_) rfl (by kernel_rfl) (by kernel_rfl) (by kernel_rfl) (fun _ _ _ h => h) (Or.inl ⟨by rfl, by intro w hSw; obtain ⟨z1, z2, z3, z4⟩ := hSw; go_simp; with_reducible rfl⟩) (by assumption) ?_
            simp only [Act.put, List.getElem_toArray, List.getElem_cons_succ, List.getElem_cons_zero, List.setIfInBounds_toArray, List.set_cons_zero, List.set_cons_succ]
            refine wpAnyH_take (i := 5) (v := ?_) rfl (by kernel_rfl) (by kernel_rfl) (by kernel_rfl) (fun _ _ _ h => h) (Or.inl ⟨by rfl, by intro w hSw; obtain ⟨z1, z2, z3, z4⟩ := hSw; go_simp; with_reducible rfl⟩) (by assumption) ?_
            simp only [Act.put, List.getElem_toArray, List.getElem_cons_succ, List.getElem_cons_zero, List.setIfInBounds_toArray, List.set_cons_zero, List.set_cons_succ]
            refine wpAnyH_take (i := 6) (v := ?_) rfl (by kernel_rfl) (by kernel_rfl) (by kernel_rfl) (fun _ _ _ h => h) (Or.inl ⟨by rfl, by intro w hSw; obtain ⟨z1, z2, z3, z4⟩ := hSw; go_simp; with_reducible rfl⟩) (by assumption) ?_
            simp only [Act.put, List.getElem_toArray, List.getElem_cons_succ, List.getElem_cons_zero, List.setIfInBounds_toArray, List.set_cons_zero, List.set_cons_succ]
            refine wpAnyH_take (i := 7) (v := ?_) rfl (by kernel_rfl) (by kernel_rfl) (by kernel_rfl) (fun _ _ _ h => h) (Or.inl ⟨by rfl, by intro w hSw; obtain ⟨z1, z2, z3, z4⟩ := hSw; go_simp; with_reducible rfl⟩) (by assumption) ?_
            simp only [Act.put, List.getElem_toArray, List.getElem_cons_succ, List.getElem_cons_zero, List.setIfInBounds_toArray, List.set_cons_zero, List.set_cons_succ]
            refine wpAnyH_take (i := 8) (v := ?_) rfl (by kernel_rfl) (by kernel_rfl) (by kernel_rfl) (fun _ _ _ h => h) (Or.inl ⟨by rfl, by intro w hSw; obtain ⟨z1, z2, z3, z4⟩ := hSw; go_simp; with_reducible rfl⟩) (by assumption) ?_
            simp only [Act.put, List.getElem_toArray, List.getElem_cons_succ, List.getElem_cons_zero, List.setIfInBounds_toArray, List.set_cons_zero, List.set_cons_succ]
            refine wpAnyH_take (i := 9) (v := ?_) rfl (by kernel_rfl) (by kernel_rfl) (by kernel_rfl) (fun _ _ _ h => h) (Or.inl ⟨by rfl, by intro w hSw; obtain ⟨z1, z2, z3, z4⟩ := hSw; go_simp; with_reducible rfl⟩) (by assumption) ?_
            simp only [Act.put, List.getElem_toArray, List.getElem_cons_succ, List.getElem_cons_zero, List.setIfInBounds_toArray, List.set_cons_zero, List.set_cons_succ]
            refine wpAnyH_ready (rs := [10]) (by kernel_rfl) (by simp) ?_
            refine AllReadyH.cons rfl (fun K hK => ?_) AllReadyH.nil
            go_simp
            refine HDEC.out.mono ?_
            rintro e w1 ⟨rfl, ⟨d1, d2, d3, d4⟩, HX⟩
            refine hK.out _ _ ⟨d1, d2, d3, d4⟩ (fun hS' => ?_)
            refine wpAnyH_take (i := 11) (v := ?_) rfl (by kernel_rfl) (by kernel_rfl) (by kernel_rfl) (fun _ _ _ h => h) (Or.inl ⟨by rfl, by intro w hSw; obtain ⟨z1, z2, z3, z4⟩ := hSw; go_simp; with_reducible rfl⟩) (by assumption) ?_
            simp only [Act.put, List.getElem_toArray, List.getElem_cons_succ, List.getElem_cons_zero, List.setIfInBounds_toArray, List.set_cons_zero, List.set_cons_succ]
            refine wpAnyH_take (i := 12) (v := ?_) rfl (by kernel_rfl) (by kernel_rfl) (by kernel_rfl) (fun _ _ _ h => h) (Or.inl ⟨by rfl, by intro w hSw; obtain ⟨z1, z2, z3, z4⟩ := hSw; go_simp; with_reducible rfl⟩) (by assumption) ?_
            simp only [Act.put, List.getElem_toArray, List.getElem_cons_succ, List.getElem_cons_zero, List.setIfInBounds_toArray, List.set_cons_zero, List.set_cons_succ]
            refine wpAnyH_take (i := 13) (v := undef) rfl (by kernel_rfl) (by kernel_rfl) (by kernel_rfl) (fun _ _ _ h => h) (Or.inr ⟨by rfl, rfl⟩) (by assumption) ?_
            simp only [Act.put, List.getElem_toArray, List.getElem_cons_succ, List.getElem_cons_zero, List.setIfInBounds_toArray, List.set_cons_zero, List.set_cons_succ]
            refine wpAnyH_take (i := 14) (v := undef) rfl (by kernel_rfl) (by kernel_rfl) (by kernel_rfl) (fun _ _ _ h => h) (Or.inr ⟨by rfl, rfl⟩) (by assumption) ?_
            simp only [Act.put, List.getElem_toArray, List.getElem_cons_succ, List.getElem_cons_zero, List.setIfInBounds_toArray, List.set_cons_zero, List.set_cons_succ]
            refine wpAnyH_take (i := 15) (v := undef) rfl (by kernel_rfl) (by kernel_rfl) (by kernel_rfl) (fun _ _ _ h => h) (Or.inr ⟨by rfl, rfl⟩) (by assumption) ?_
            simp only [Act.put, List.getElem_toArray, List.getElem_cons_succ, List.getElem_cons_zero, List.setIfInBounds_toArray, List.set_cons_zero, List.set_cons_succ]
            refine wpAnyH_take (i := 16) (v := undef) rfl (by kernel_rfl) (by kernel_rfl) (by kernel_rfl) (fun _ _ _ h => h) (Or.inr ⟨by rfl, rfl⟩) (by assumption) ?_
            simp only [Act.put, List.getElem_toArray, List.getElem_cons_succ, List.getElem_cons_zero, List.setIfInBounds_toArray, List.set_cons_zero, List.set_cons_succ]
            refine wpAnyH_take (i := 17) (v := undef) rfl (by kernel_rfl) (by kernel_rfl) (by kernel_rfl) (fun _ _ _ h => h) (Or.inr ⟨by rfl, rfl⟩) (by assumption) ?_
            simp only [Act.put, List.getElem_toArray, List.getElem_cons_succ, List.getElem_cons_zero, List.setIfInBounds_toArray, List.set_cons_zero, List.set_cons_succ]
            refine wpAnyH_take (i := 18) (v := undef) rfl (by kernel_rfl) (by kernel_rfl) (by kernel_rfl) (fun _ _ _ h => h) (Or.inr ⟨by rfl, rfl⟩) (by assumption) ?_
            simp only [Act.put, List.getElem_toArray, List.getElem_cons_succ, List.getElem_cons_zero, List.setIfInBounds_toArray, List.set_cons_zero, List.set_cons_succ]
            refine wpAnyH_take (i := 19) (v := undef) rfl (by kernel_rfl) (by kernel_rfl) (by kernel_rfl) (fun _ _ _ h => h) (Or.inr ⟨by rfl, rfl⟩) (by assumption) ?_
            simp only [Act.put, List.getElem_toArray, List.getElem_cons_succ, List.getElem_cons_zero, List.setIfInBounds_toArray, List.set_cons_zero, List.set_cons_succ]
            refine wpAnyH_take (i := 20) (v := undef) rfl (by kernel_rfl) (by kernel_rfl) (by kernel_rfl) (fun _ _ _ h => h) (Or.inr ⟨by rfl, rfl⟩) (by assumption) ?_
            simp only [Act.put, List.getElem_toArray, List.getElem_cons_succ, List.getElem_cons_zero, List.setIfInBounds_toArray, List.set_cons_zero, List.set_cons_succ]
            refine wpAnyH_take (i := 21) (v := undef) rfl (by kernel_rfl) (by kernel_rfl) (by kernel_rfl) (fun _ _ _ h => h) (Or.inr ⟨by rfl, rfl⟩) (by assumption) ?_
            simp only [Act.put, List.getElem_toArray, List.getElem_cons_succ, List.getElem_cons_zero, List.setIfInBounds_toArray, List.set_cons_zero, List.set_cons_succ]
            refine wpAnyH_take (i := 22) (v := undef) rfl (by kernel_rfl) (by kernel_rfl) (by kernel_rfl) (fun _ _ _ h => h) (Or.inr ⟨by rfl, rfl⟩) (by assumption) ?_
            simp only [Act.put, List.getElem_toArray, List.getElem_cons_succ, List.getElem_cons_zero, List.setIfInBounds_toArray, List.set_cons_zero, List.set_cons_succ]
            refine wpAnyH_take (i := 23) (v := ?_) rfl (by kernel_rfl) (by kernel_rfl) (by kernel_rfl) (fun _ _ _ h => h) (Or.inl ⟨by rfl, by intro w hSw; obtain ⟨z1, z2, z3, z4⟩ := hSw; go_simp; with_reducible rfl⟩) (by assumption) ?_
            simp only [Act.put, List.getElem_toArray, List.getElem_cons_succ, List.getElem_cons_zero, List.setIfInBounds_toArray, List.set_cons_zero, List.set_cons_succ]
            refine wpAnyH_done (by kernel_rfl) ?_ _
            go_wp2_with fail
            refine ⟨⟨i + 1, by omega, by go_num, s', rfl, ?_, HX.out.1, HX.out.2.2.1, HX.out.2.2.1.size⟩, by simp [intOf]; omega⟩
            rw [HF.out, fin.out]
          · rw [hme, show Option.isSome (some es) = true from rfl] at HDEC
            have hfr := (msgEs_ok hme).1
            obtain ⟨fr, rfl⟩ := Int.eq_ofNat_of_zero_le hfr.1
            have hfj : fr < j := by omega
            clear hfr
            rcases hot : okT es s'.L j with _ | _
            · refine wp_region_held_drew (S := (fun w' => w'.cell? ⟨k.bp, 3, none⟩ = some (.pointer (some ⟨k.br, 0, none⟩)) ∧ w'.cell? ⟨k.bp, 2, none⟩ = some (.pointer (some ⟨k.bv, 0, none⟩)) ∧ w'.cell? ⟨mb, 2, none⟩ = some (.slice ao vn vc) ∧ w'.cell? ⟨mb, 0, none⟩ = some (.int .i64 (fr : Int)))) (by kernel_rfl) ⟨q1, q2, q3, q4⟩ (fun hS => ?_)
              refine wpAnyH_take (i := 0) (v := ?_) rfl (by kernel_rfl) (by kernel_rfl) (by kernel_rfl) (fun _ _ _ h => h) (Or.inl ⟨by rfl, by intro w hSw; obtain ⟨z1, z2, z3, z4⟩ := hSw; go_simp; with_reducible rfl⟩) (by assumption) ?_
              simp only [Act.put, List.getElem_toArray, List.getElem_cons_succ, List.getElem_cons_zero, List.setIfInBounds_toArray, List.set_cons_zero, List.set_cons_succ]
              refine wpAnyH_take (i := 1) (v := ?_) rfl (by kernel_rfl) (by kernel_rfl) (by kernel_rfl) (fun _ _ _ h => h) (Or.inl ⟨by rfl, by intro w hSw; obtain ⟨z1, z2, z3, z4⟩ := hSw; go_simp; with_reducible rfl⟩) (by assumption) ?_
              simp only [Act.put, List.getElem_toArray, List.getElem_cons_succ, List.getElem_cons_zero, List.setIfInBounds_toArray, List.set_cons_zero, List.set_cons_succ]
              refine wpAnyH_take (i := 2) (v := ?_) rfl (by kernel_rfl) (by kernel_rfl) (by kernel_rfl) (fun _ _ _ h => h) (Or.inl ⟨by rfl, by intro w hSw; obtain ⟨z1, z2, z3, z4⟩ := hSw; go_simp; with_reducible rfl⟩) (by assumption) ?_
              simp only [Act.put, List.getElem_toArray, List.getElem_cons_succ, List.getElem_cons_zero, List.setIfInBounds_toArray, List.set_cons_zero, List.set_cons_succ]
              refine wpAnyH_take (i := 3) (v := ?_) rfl (by kernel_rfl) (by kernel_rfl) (by kernel_rfl) (fun _ _ _ h => h) (Or.inl ⟨by rfl, by intro w hSw; obtain ⟨z1, z2, z3, z4⟩ := hSw; go_simp; with_reducible rfl⟩) (by assumption) ?_
              simp only [Act.put, List.getElem_toArray, List.getElem_cons_succ, List.getElem_cons_zero, List.setIfInBounds_toArray, List.set_cons_zero, List.set_cons_succ]
              refine wpAnyH_take (i := 4) (v := ?_) rfl (by kernel_rfl) (by kernel_rfl) (by kernel_rfl) (fun _ _ _ h => h) (Or.inl ⟨by rfl, by intro w hSw; obtain ⟨z1, z2, z3, z4⟩ := hSw; go_simp; with_reducible rfl⟩) (by assumption) ?_
              simp only [Act.put, List.getElem_toArray, List.getElem_cons_succ, List.getElem_cons_zero, List.setIfInBounds_toArray, List.set_cons_zero, List.set_cons_succ]
              refine wpAnyH_take (i := 5) (v := ?_) rfl (by kernel_rfl) (by kernel_rfl) (by kernel_rfl) (fun _ _ _ h => h) (Or.inl ⟨by rfl, by intro w hSw; obtain ⟨z1, z2, z3, z4⟩ := hSw; go_simp; with_reducible rfl⟩) (by assumption) ?_
              simp only [Act.put, List.getElem_toArray, List.getElem_cons_succ, List.getElem_cons_zero, List.setIfInBounds_toArray, List.set_cons_zero, List.set_cons_succ]
              refine wpAnyH_take (i := 6) (v := ?_) rfl (by kernel_rfl) (by kernel_rfl) (by kernel_rfl) (fun _ _ _ h => h) (Or.inl ⟨by rfl, by intro w hSw; obtain ⟨z1, z2, z3, z4⟩ := hSw; go_simp; with_reducible rfl⟩) (by assumption) ?_
              simp only [Act.put, List.getElem_toArray, List.getElem_cons_succ, List.getElem_cons_zero, List.setIfInBounds_toArray, List.set_cons_zero, List.set_cons_succ]
              refine wpAnyH_take (i := 7) (v := ?_) rfl (by kernel_rfl) (by kernel_rfl) (by kernel_rfl) (fun _ _ _ h => h) (Or.inl ⟨by rfl, by intro w hSw; obtain ⟨z1, z2, z3, z4⟩ := hSw; go_simp; with_reducible rfl⟩) (by assumption) ?_
              simp only [Act.put, List.getElem_toArray, List.getElem_cons_succ, List.getElem_cons_zero, List.setIfInBounds_toArray, List.set_cons_zero, List.set_cons_succ]
              refine wpAnyH_take (i := 8) (v := ?_) rfl (by kernel_rfl) (by kernel_rfl) (by kernel_rfl) (fun _ _ _ h => h) (Or.inl ⟨by rfl, by intro w hSw; obtain ⟨z1, z2, z3, z4⟩ := hSw; go_simp; with_reducible rfl⟩) (by assumption) ?_
              simp only [Act.put, List.getElem_toArray, List.getElem_cons_succ, List.getElem_cons_zero, List.setIfInBounds_toArray, List.set_cons_zero, List.set_cons_succ]
              refine wpAnyH_take (i := 9) (v := ?_) rfl (by kernel_rfl) (by kernel_rfl) (by kernel_rfl) (fun _ _ _ h => h) (Or.inl ⟨by rfl, by intro w hSw; obtain ⟨z1, z2, z3, z4⟩ := hSw; go_simp; with_reducible rfl⟩) (by assumption) ?_
              simp only [Act.put, List.getElem_toArray, List.getElem_cons_succ, List.getElem_cons_zero, List.setIfInBounds_toArray, List.set_cons_zero, List.set_cons_succ]
              refine wpAnyH_ready (rs := [10]) (by kernel_rfl) (by simp) ?_
              refine AllReadyH.cons rfl (fun K hK => ?_) AllReadyH.nil
              go_simp
              refine HDEC.out.mono ?_
              rintro e w1 ⟨rfl, ⟨d1, d2, d3, d4⟩, HX⟩
              refine hK.out _ _ ⟨d1, d2, d3, d4⟩ (fun hS' => ?_)
              refine wpAnyH_take (i := 11) (v := ?_) rfl (by kernel_rfl) (by kernel_rfl) (by kernel_rfl) (fun _ _ _ h => h) (Or.inl ⟨by rfl, by intro w hSw; obtain ⟨z1, z2, z3, z4⟩ := hSw; go_simp; with_reducible rfl⟩) (by assumption) ?_
              simp only [Act.put, List.getElem_toArray, List.getElem_cons_succ, List.getElem_cons_zero, List.setIfInBounds_toArray, List.set_cons_zero, List.set_cons_succ]
              refine wpAnyH_take (i := 12) (v := ?_) rfl (by kernel_rfl) (by kernel_rfl) (by kernel_rfl) (fun _ _ _ h => h) (Or.inl ⟨by rfl, by intro w hSw; obtain ⟨z1, z2, z3, z4⟩ := hSw; go_simp; with_reducible rfl⟩) (by assumption) ?_
              simp only [Act.put, List.getElem_toArray, List.getElem_cons_succ, List.getElem_cons_zero, List.setIfInBounds_toArray, List.set_cons_zero, List.set_cons_succ]
              refine wpAnyH_take (i := 13) (v := ?_) rfl (by kernel_rfl) (by kernel_rfl) (by kernel_rfl) (fun _ _ _ h => h) (Or.inl ⟨by rfl, by intro w hSw; obtain ⟨z1, z2, z3, z4⟩ := hSw; go_simp; with_reducible rfl⟩) (by assumption) ?_
              simp only [Act.put, List.getElem_toArray, List.getElem_cons_succ, List.getElem_cons_zero, List.setIfInBounds_toArray, List.set_cons_zero, List.set_cons_succ]
              refine wpAnyH_take (i := 14) (v := ?_) rfl (by kernel_rfl) (by kernel_rfl) (by kernel_rfl) (fun _ _ _ h => h) (Or.inl ⟨by rfl, by intro w hSw; obtain ⟨z1, z2, z3, z4⟩ := hSw; go_simp; with_reducible rfl⟩) (by assumption) ?_
              simp only [Act.put, List.getElem_toArray, List.getElem_cons_succ, List.getElem_cons_zero, List.setIfInBounds_toArray, List.set_cons_zero, List.set_cons_succ]
              refine wpAnyH_take (i := 15) (v := ?_) rfl (by kernel_rfl) (by kernel_rfl) (by kernel_rfl) (fun _ _ _ h => h) (Or.inl ⟨by rfl, by intro w hSw; obtain ⟨z1, z2, z3, z4⟩ := hSw; go_simp; with_reducible rfl⟩) (by assumption) ?_
              simp only [Act.put, List.getElem_toArray, List.getElem_cons_succ, List.getElem_cons_zero, List.setIfInBounds_toArray, List.set_cons_zero, List.set_cons_succ]
              refine wpAnyH_take (i := 16) (v := ?_) rfl (by kernel_rfl) (by kernel_rfl) (by kernel_rfl) (fun _ _ _ h => h) (Or.inl ⟨by rfl, by intro w hSw; obtain ⟨z1, z2, z3, z4⟩ := hSw; go_simp; with_reducible rfl⟩) (by assumption) ?_
              simp only [Act.put, List.getElem_toArray, List.getElem_cons_succ, List.getElem_cons_zero, List.setIfInBounds_toArray, List.set_cons_zero, List.set_cons_succ]
              refine wpAnyH_take (i := 17) (v := ?_) rfl (by kernel_rfl) (by kernel_rfl) (by kernel_rfl) (fun _ _ _ h => h) (Or.inl ⟨by rfl, by intro w hSw; obtain ⟨z1, z2, z3, z4⟩ := hSw; go_simp; with_reducible rfl⟩) (by assumption) ?_
              simp only [Act.put, List.getElem_toArray, List.getElem_cons_succ, List.getElem_cons_zero, List.setIfInBounds_toArray, List.set_cons_zero, List.set_cons_succ]
              refine wpAnyH_take (i := 18) (v := ?_) rfl (by kernel_rfl) (by kernel_rfl) (by kernel_rfl) (fun _ _ _ h => h) (Or.inl ⟨by rfl, by intro w hSw; obtain ⟨z1, z2, z3, z4⟩ := hSw; go_simp; with_reducible rfl⟩) (by assumption) ?_
              simp only [Act.put, List.getElem_toArray, List.getElem_cons_succ, List.getElem_cons_zero, List.setIfInBounds_toArray, List.set_cons_zero, List.set_cons_succ]
              refine wpAnyH_take (i := 19) (v := ?_) rfl (by kernel_rfl) (by kernel_rfl) (by kernel_rfl) (fun _ _ _ h => h) (Or.inl ⟨by rfl, by intro w hSw; obtain ⟨z1, z2, z3, z4⟩ := hSw; go_simp; with_reducible rfl⟩) (by assumption) ?_
              simp only [Act.put, List.getElem_toArray, List.getElem_cons_succ, List.getElem_cons_zero, List.setIfInBounds_toArray, List.set_cons_zero, List.set_cons_succ]
              refine wpAnyH_take (i := 20) (v := ?_) rfl (by kernel_rfl) (by kernel_rfl) (by kernel_rfl) (fun _ _ _ h => h) (Or.inl ⟨by rfl, by intro w hSw; obtain ⟨z1, z2, z3, z4⟩ := hSw; go_simp; with_reducible rfl⟩) (by assumption) ?_
              simp only [Act.put, List.getElem_toArray, List.getElem_cons_succ, List.getElem_cons_zero, List.setIfInBounds_toArray, List.set_cons_zero, List.set_cons_succ]
              refine wpAnyH_ready (rs := [21]) (by kernel_rfl) (by simp) ?_
              refine AllReadyH.cons rfl (fun K hK => ?_) AllReadyH.nil
              go_simp
              refine (take_at w w1 k B rl rf ri re id j width mb last ended dec val rnd cr S s' (fr : Int) t (.slice ao vn vc) l es hme HX.out.1 (HX.out.2.1 es rfl) HA.out (Nat.le_trans HB.out HX.out.2.2.1.size) HX.out.2.2.1 HX.out.2.2.2.1 HMB.out hn hw hw2).mono ?_
              rintro e w2 ⟨rfl, ⟨f1, f2, f3, f4⟩, HY⟩
              rw [hot]
              refine hK.out _ _ ⟨f1, f2, f3, f4⟩ (fun hS'' => ?_)
              refine wpAnyH_take (i := 22) (v := ?_) rfl (by kernel_rfl) (by kernel_rfl) (by kernel_rfl) (fun _ _ _ h => h) (Or.inl ⟨by rfl, by intro w hSw; obtain ⟨z1, z2, z3, z4⟩ := hSw; go_simp; with_reducible rfl⟩) (by assumption) ?_
              simp only [Act.put, List.getElem_toArray, List.getElem_cons_succ, List.getElem_cons_zero, List.setIfInBounds_toArray, List.set_cons_zero, List.set_cons_succ]
              refine wpAnyH_take (i := 23) (v := ?_) rfl (by kernel_rfl) (by kernel_rfl) (by kernel_rfl) (fun _ _ _ h => h) (Or.inl ⟨by rfl, by intro w hSw; obtain ⟨z1, z2, z3, z4⟩ := hSw; go_simp; with_reducible rfl⟩) (by assumption) ?_
              simp only [Act.put, List.getElem_toArray, List.getElem_cons_succ, List.getElem_cons_zero, List.setIfInBounds_toArray, List.set_cons_zero, List.set_cons_succ]
              refine wpAnyH_done (by kernel_rfl) ?_ _
              go_wp2_with fail
              have fin := stepM_no (s := s') hme hot
              have tk := took_no hot s'.I
              have hst := HY.out.1
              rw [tk.1, tk.2] at hst
              obtain ⟨RL, RF, RI, hr, -⟩ := HY.out.2.1
              refine ⟨⟨i + 1, by omega, by go_num, s', rfl, ?_, ⟨hst, ⟨RL, RF, RI, hr⟩, HS.out.2.g.low⟩, HY.out.2.2.1, HY.out.2.2.1.size⟩, by simp [intOf]; omega⟩
              rw [HF.out, fin]
            · refine wp_region_held_drew (S := (fun w' => w'.cell? ⟨k.bp, 3, none⟩ = some (.pointer (some ⟨k.br, 0, none⟩)) ∧ w'.cell? ⟨k.bp, 2, none⟩ = some (.pointer (some ⟨k.bv, 0, none⟩)) ∧ w'.cell? ⟨mb, 2, none⟩ = some (.slice ao vn vc) ∧ w'.cell? ⟨mb, 0, none⟩ = some (.int .i64 (fr : Int)))) (by kernel_rfl) ⟨q1, q2, q3, q4⟩ (fun hS => ?_)
              refine wpAnyH_take (i := 0) (v := ?_) rfl (by kernel_rfl) (by kernel_rfl) (by kernel_rfl) (fun _ _ _ h => h) (Or.inl ⟨by rfl, by intro w hSw; obtain ⟨z1, z2, z3, z4⟩ := hSw; go_simp; with_reducible rfl⟩) (by assumption) ?_
              simp only [Act.put, List.getElem_toArray, List.getElem_cons_succ, List.getElem_cons_zero, List.setIfInBounds_toArray, List.set_cons_zero, List.set_cons_succ]
              refine wpAnyH_take (i := 1) (v := ?_) rfl (by kernel_rfl) (by kernel_rfl) (by kernel_rfl) (fun _ _ _ h => h) (Or.inl ⟨by rfl, by intro w hSw; obtain ⟨z1, z2, z3, z4⟩ := hSw; go_simp; with_reducible rfl⟩) (by assumption) ?_
              simp only [Act.put, List.getElem_toArray, List.getElem_cons_succ, List.getElem_cons_zero, List.setIfInBounds_toArray, List.set_cons_zero, List.set_cons_succ]
              refine wpAnyH_take (i := 2) (v := ?_) rfl (by kernel_rfl) (by kernel_rfl) (by kernel_rfl) (fun _ _ _ h => h) (Or.inl ⟨by rfl, by intro w hSw; obtain ⟨z1, z2, z3, z4⟩ := hSw; go_simp; with_reducible rfl⟩) (by assumption) ?_
              simp only [Act.put, List.getElem_toArray, List.getElem_cons_succ, List.getElem_cons_zero, List.setIfInBounds_toArray, List.set_cons_zero, List.set_cons_succ]
              refine wpAnyH_take (i := 3) (v := ?_) rfl (by kernel_rfl) (by kernel_rfl) (by kernel_rfl) (fun _ _ _ h => h) (Or.inl ⟨by rfl, by intro w hSw; obtain ⟨z1, z2, z3, z4⟩ := hSw; go_simp; with_reducible rfl⟩) (by assumption) ?_
              simp only [Act.put, List.getElem_toArray, List.getElem_cons_succ, List.getElem_cons_zero, List.setIfInBounds_toArray, List.set_cons_zero, List.set_cons_succ]
              refine wpAnyH_take (i := 4) (v := ?_) rfl (by kernel_rfl) (by kernel_rfl) (by kernel_rfl) (fun _ _ _ h => h) (Or.inl ⟨by rfl, by intro w hSw; obtain ⟨z1, z2, z3, z4⟩ := hSw; go_simp; with_reducible rfl⟩) (by assumption) ?_
              simp only [Act.put, List.getElem_toArray, List.getElem_cons_succ, List.getElem_cons_zero, List.setIfInBounds_toArray, List.set_cons_zero, List.set_cons_succ]
              refine wpAnyH_take (i := 5) (v := ?_) rfl (by kernel_rfl) (by kernel_rfl) (by kernel_rfl) (fun _ _ _ h => h) (Or.inl ⟨by rfl, by intro w hSw; obtain ⟨z1, z2, z3, z4⟩ := hSw; go_simp; with_reducible rfl⟩) (by assumption) ?_
              simp only [Act.put, List.getElem_toArray, List.getElem_cons_succ, List.getElem_cons_zero, List.setIfInBounds_toArray, List.set_cons_zero, List.set_cons_succ]
              refine wpAnyH_take (i := 6) (v := ?_) rfl (by kernel_rfl) (by kernel_rfl) (by kernel_rfl) (fun _ _ _ h => h) (Or.inl ⟨by rfl, by intro w hSw; obtain ⟨z1, z2, z3, z4⟩ := hSw; go_simp; with_reducible rfl⟩) (by assumption) ?_
              simp only [Act.put, List.getElem_toArray, List.getElem_cons_succ, List.getElem_cons_zero, List.setIfInBounds_toArray, List.set_cons_zero, List.set_cons_succ]
              refine wpAnyH_take (i := 7) (v := ?_) rfl (by kernel_rfl) (by kernel_rfl) (by kernel_rfl) (fun _ _ _ h => h) (Or.inl ⟨by rfl, by intro w hSw; obtain ⟨z1, z2, z3, z4⟩ := hSw; go_simp; with_reducible rfl⟩) (by assumption) ?_
              simp only [Act.put, List.getElem_toArray, List.getElem_cons_succ, List.getElem_cons_zero, List.setIfInBounds_toArray, List.set_cons_zero, List.set_cons_succ]
              refine wpAnyH_take (i := 8) (v := ?_) rfl (by kernel_rfl) (by kernel_rfl) (by kernel_rfl) (fun _ _ _ h => h) (Or.inl ⟨by rfl, by intro w hSw; obtain ⟨z1, z2, z3, z4⟩ := hSw; go_simp; with_reducible rfl⟩) (by assumption) ?_
              simp only [Act.put, List.getElem_toArray, List.getElem_cons_succ, List.getElem_cons_zero, List.setIfInBounds_toArray, List.set_cons_zero, List.set_cons_succ]
              refine wpAnyH_take (i := 9) (v := ?_) rfl (by kernel_rfl) (by kernel_rfl) (by kernel_rfl) (fun _ _ _ h => h) (Or.inl ⟨by rfl, by intro w hSw; obtain ⟨z1, z2, z3, z4⟩ := hSw; go_simp; with_reducible rfl⟩) (by assumption) ?_
              simp only [Act.put, List.getElem_toArray, List.getElem_cons_succ, List.getElem_cons_zero, List.setIfInBounds_toArray, List.set_cons_zero, List.set_cons_succ]
              refine wpAnyH_ready (rs := [10]) (by kernel_rfl) (by simp) ?_
              refine AllReadyH.cons rfl (fun K hK => ?_) AllReadyH.nil
              go_simp
              refine HDEC.out.mono ?_
              rintro e w1 ⟨rfl, ⟨d1, d2, d3, d4⟩, HX⟩
              refine hK.out _ _ ⟨d1, d2, d3, d4⟩ (fun hS' => ?_)
              refine wpAnyH_take (i := 11) (v := ?_) rfl (by kernel_rfl) (by kernel_rfl) (by kernel_rfl) (fun _ _ _ h => h) (Or.inl ⟨by rfl, by intro w hSw; obtain ⟨z1, z2, z3, z4⟩ := hSw; go_simp; with_reducible rfl⟩) (by assumption) ?_
              simp only [Act.put, List.getElem_toArray, List.getElem_cons_succ, List.getElem_cons_zero, List.setIfInBounds_toArray, List.set_cons_zero, List.set_cons_succ]
              refine wpAnyH_take (i := 12) (v := ?_) rfl (by kernel_rfl) (by kernel_rfl) (by kernel_rfl) (fun _ _ _ h => h) (Or.inl ⟨by rfl, by intro w hSw; obtain ⟨z1, z2, z3, z4⟩ := hSw; go_simp; with_reducible rfl⟩) (by assumption) ?_
              simp only [Act.put, List.getElem_toArray, List.getElem_cons_succ, List.getElem_cons_zero, List.setIfInBounds_toArray, List.set_cons_zero, List.set_cons_succ]
              refine wpAnyH_take (i := 13) (v := ?_) rfl (by kernel_rfl) (by kernel_rfl) (by kernel_rfl) (fun _ _ _ h => h) (Or.inl ⟨by rfl, by intro w hSw; obtain ⟨z1, z2, z3, z4⟩ := hSw; go_simp; with_reducible rfl⟩) (by assumption) ?_
              simp only [Act.put, List.getElem_toArray, List.getElem_cons_succ, List.getElem_cons_zero, List.setIfInBounds_toArray, List.set_cons_zero, List.set_cons_succ]
              refine wpAnyH_take (i := 14) (v := ?_) rfl (by kernel_rfl) (by kernel_rfl) (by kernel_rfl) (fun _ _ _ h => h) (Or.inl ⟨by rfl, by intro w hSw; obtain ⟨z1, z2, z3, z4⟩ := hSw; go_simp; with_reducible rfl⟩) (by assumption) ?_
              simp only [Act.put, List.getElem_toArray, List.getElem_cons_succ, List.getElem_cons_zero, List.setIfInBounds_toArray, List.set_cons_zero, List.set_cons_succ]
              refine wpAnyH_take (i := 15) (v := ?_) rfl (by kernel_rfl) (by kernel_rfl) (by kernel_rfl) (fun _ _ _ h => h) (Or.inl ⟨by rfl, by intro w hSw; obtain ⟨z1, z2, z3, z4⟩ := hSw; go_simp; with_reducible rfl⟩) (by assumption) ?_
              simp only [Act.put, List.getElem_toArray, List.getElem_cons_succ, List.getElem_cons_zero, List.setIfInBounds_toArray, List.set_cons_zero, List.set_cons_succ]
              refine wpAnyH_take (i := 16) (v := ?_) rfl (by kernel_rfl) (by kernel_rfl) (by kernel_rfl) (fun _ _ _ h => h) (Or.inl ⟨by rfl, by intro w hSw; obtain ⟨z1, z2, z3, z4⟩ := hSw; go_simp; with_reducible rfl⟩) (by assumption) ?_
              simp only [Act.put, List.getElem_toArray, List.getElem_cons_succ, List.getElem_cons_zero, List.setIfInBounds_toArray, List.set_cons_zero, List.set_cons_succ]
              refine wpAnyH_take (i := 17) (v := ?_) rfl (by kernel_rfl) (by kernel_rfl) (by kernel_rfl) (fun _ _ _ h => h) (Or.inl ⟨by rfl, by intro w hSw; obtain ⟨z1, z2, z3, z4⟩ := hSw; go_simp; with_reducible rfl⟩) (by assumption) ?_
              simp only [Act.put, List.getElem_toArray, List.getElem_cons_succ, List.getElem_cons_zero, List.setIfInBounds_toArray, List.set_cons_zero, List.set_cons_succ]
              refine wpAnyH_take (i := 18) (v := ?_) rfl (by kernel_rfl) (by kernel_rfl) (by kernel_rfl) (fun _ _ _ h => h) (Or.inl ⟨by rfl, by intro w hSw; obtain ⟨z1, z2, z3, z4⟩ := hSw; go_simp; with_reducible rfl⟩) (by assumption) ?_
              simp only [Act.put, List.getElem_toArray, List.getElem_cons_succ, List.getElem_cons_zero, List.setIfInBounds_toArray, List.set_cons_zero, List.set_cons_succ]
              refine wpAnyH_take (i := 19) (v := ?_) rfl (by kernel_rfl) (by kernel_rfl) (by kernel_rfl) (fun _ _ _ h => h) (Or.inl ⟨by rfl, by intro w hSw; obtain ⟨z1, z2, z3, z4⟩ := hSw; go_simp; with_reducible rfl⟩) (by assumption) ?_
              simp only [Act.put, List.getElem_toArray, List.getElem_cons_succ, List.getElem_cons_zero, List.setIfInBounds_toArray, List.set_cons_zero, List.set_cons_succ]
              refine wpAnyH_take (i := 20) (v := ?_) rfl (by kernel_rfl) (by kernel_rfl) (by kernel_rfl) (fun _ _ _ h => h) (Or.inl ⟨by rfl, by intro w hSw; obtain ⟨z1, z2, z3, z4⟩ := hSw; go_simp; with_reducible rfl⟩) (by assumption) ?_
              simp only [Act.put, List.getElem_toArray, List.getElem_cons_succ, List.getElem_cons_zero, List.setIfInBounds_toArray, List.set_cons_zero, List.set_cons_succ]
              refine wpAnyH_ready (rs := [21]) (by kernel_rfl) (by simp) ?_
              refine AllReadyH.cons rfl (fun K hK => ?_) AllReadyH.nil
              go_simp
              refine (take_at w w1 k B rl rf ri re id j width mb last ended dec val rnd cr S s' (fr : Int) t (.slice ao vn vc) l es hme HX.out.1 (HX.out.2.1 es rfl) HA.out (Nat.le_trans HB.out HX.out.2.2.1.size) HX.out.2.2.1 HX.out.2.2.2.1 HMB.out hn hw hw2).mono ?_
              rintro e w2 ⟨rfl, ⟨f1, f2, f3, f4⟩, HY⟩
              rw [hot]
              refine hK.out _ _ ⟨f1, f2, f3, f4⟩ (fun hS'' => ?_)
              refine wpAnyH_take (i := 22) (v := ?_) rfl (by kernel_rfl) (by kernel_rfl) (by kernel_rfl) (fun _ _ _ h => h) (Or.inl ⟨by rfl, by intro w hSw; obtain ⟨z1, z2, z3, z4⟩ := hSw; go_simp; with_reducible rfl⟩) (by assumption) ?_
              simp only [Act.put, List.getElem_toArray, List.getElem_cons_succ, List.getElem_cons_zero, List.setIfInBounds_toArray, List.set_cons_zero, List.set_cons_succ]
              refine wpAnyH_take (i := 23) (v := ?_) rfl (by kernel_rfl) (by kernel_rfl) (by kernel_rfl) (fun _ _ _ h => h) (Or.inl ⟨by rfl, by intro w hSw; obtain ⟨z1, z2, z3, z4⟩ := hSw; go_simp; with_reducible rfl⟩) (by assumption) ?_
              simp only [Act.put, List.getElem_toArray, List.getElem_cons_succ, List.getElem_cons_zero, List.setIfInBounds_toArray, List.set_cons_zero, List.set_cons_succ]
              refine wpAnyH_done (by kernel_rfl) ?_ _
              have fin := hideIt (stepM_yes (s := s') hme hot)
              have tk := took_yes hot s'.I
              have hst := HY.out.1
              rw [tk.1, tk.2] at hst
              obtain ⟨RL, RF, RI, hr, hel, hsy⟩ := HY.out.2.1
              have g1 : w2.cell? ⟨k.br, 1, none⟩ = some (.slice (some ⟨rl, 0, none⟩) j j) := (hr.r.cell 1).trans rfl
              have H0 : Hid (ShI w w2 k B rl rf ri re id j width last ended dec val rnd cr (takeL es s'.L) (takeI es s'.L s'.I) S s'.S RL RF RI) := ⟨hst, hr, HY.out.2.2.1⟩
              have HSY := hideIt hsy
              have HEL := hideIt hel
              have HLOW := hideIt (HS.out.2.g.low.step (s := s') (fr : Int) l)
              clear tk hst hr hsy hel HX HDEC HY d1 d2 d3 d4 q1 q2 q3 q4 f2 f3
              go_wp2_with fail
              refine shown_loop w w2 k B rl rf ri re id j width last ended dec val rnd cr _ _ S s'.S RL RF RI es _ _ _ _ _ _ _ _ _ _ _ _ _ _ _ _ _ _ _ _ _ _ _ _ _ _ _ _ _ _ _ _ _ _ _ _ _ _ _ _ _ _ _ _ _ _ _ _ _ _ _ _ _ _ _ _ _ _ _ _ _ _ _ _ _ _ _ _ _ _ _ _ _ _ _ _ _ _ _ _ _ _ _ _ _ _ _ _ _ _ H0 HA HB hn HEL HSY ?_
              intro u10 u11 u70 u71 u72 u73 u74 u75 u76 u77 u78 u79 u80 u81 u82 u83 u84 u85 u86 u87 u88 u89 u90 wx HP
              clear H0 g1 f1 f4
              go_wp2_with fail
              refine ⟨⟨i + 1, by omega, by go_num, ⟨takeL es s'.L, takeI es s'.L s'.I, minS es s'.S, orBit s'.H fr⟩, rfl, ?_, ⟨HP.out.1, ⟨RL, RF, RI, HP.out.2.1⟩, ?_⟩, HP.out.2.2, HP.out.2.2.size⟩, by simp [intOf]; omega⟩
              · rw [HF.out, fin.out]
                rfl

              · have := HLOW.out
                rw [fin.out] at this
                exact this
        · obtain rfl : N = i := by omega
          have hfin := HS.out.1
          rw [List.take_of_length_le (by rw [← HN.out]; exact Nat.le_refl _)] at hfin
          have HF := hideIt hfin
          clear hfin
          go_wp2_with fail
          go_ret
          exact ⟨by rw [← HF.out]; rfl, by rw [← HF.out]; exact HS.out.2⟩
end Go.Proofs.Qxb6613198aDoor
