import Derived.Test.Qxb6613198aDoorApply
namespace Go.Proofs.Qxb6613198aDoor
open Go.ChangeShapes Go.WideShapes Go.ChangeAt Go.RowKit
open Plain
set_option linter.unusedVariables false

/-- advance, as Receive meets it. -/
theorem advance_at (w w1 : World) (k : Blks) (B id n width r : Nat) (Hd last : Int) (ended dec : Bool) (val rnd : Int) (cr : Value) (L I S SH : List Int) (h : St w1 k id n width last ended dec val rnd cr L I S SH) (ha : k.apart B) (hB : B ≤ w1.heap.size) (hw : Below B w w1) (hid : id < n) (hr : r < width) (hn : n ≤ 64) :
    Calls Tryd.prog 17 #[.pointer (some ⟨k.bv, 0, none⟩), .int .i64 id, .int .i64 r, .int .u64 Hd] w1 fun e w' => e = .returned (.tuple #[]) ∧ w'.cell? ⟨k.bp, 2, none⟩ = some (.pointer (some ⟨k.bv, 0, none⟩)) ∧ w'.cell? ⟨k.bp, 0, none⟩ = some (.int .i64 id) ∧
      Hid (St w' k id n width last ended dec val rnd cr (L.set id r) I (S.set (id * width + r) (orBit Hd id)) SH ∧ Below B w w') := by
  have p := ha.pairs
  have a := ha.above
  refine (advance_any w1 id n k.bv k.bl k.bi k.bh k.bs (n * width) width r Hd cr L S h.v h.l h.ll h.h h.s h.ls hid hr hn (Ne.symm p.lv) (Ne.symm p.lh) (Ne.symm p.ls) (Ne.symm p.sv) p.hs).mono ?_
  rintro e w' ⟨rfl, hL, hS, hK⟩
  have g : ∀ x, x ≠ k.bl → x ≠ k.bs → x ∉ [k.bl, k.bs] := fun x h1 h2 => by simp [h1, h2]
  have st : St w' k id n width last ended dec val rnd cr (L.set id r) I (S.set (id * width + r) (orBit Hd id)) SH := by
    refine ⟨hK.blk h.p (g _ p.pl p.ps), hK.blk h.v (g _ (Ne.symm p.lv) (Ne.symm p.sv)), hL, by simp [h.ll], hK.blk h.i (g _ (Ne.symm p.li) p.is), h.li, hK.blk h.sh (g _ p.shl p.shs), h.lsh, hK.blk h.h (g _ (Ne.symm p.lh) p.hs), hS, by simp [h.ls], ?_, fun x hx => Nat.lt_of_lt_of_le (h.av x hx) hK.size⟩
    rcases h.c with rfl | ⟨bc, C, rfl, hb, hl, h1, h2⟩
    · exact Or.inl rfl
    · exact Or.inr ⟨bc, C, rfl, hK.blk hb (g _ (fun e => h1 (by rw [e]; simp [Blks.avoid])) (fun e => h1 (by rw [e]; simp [Blks.avoid]))), hl, h1, h2⟩
  refine ⟨rfl, st.p.cell 2, st.p.cell 0, st, hw.trans (hK.below hB ?_)⟩
  intro x hx
  simp only [List.mem_cons, List.not_mem_nil, or_false] at hx
  omega

set_option maxHeartbeats 1000000 in
/-- Receive (8): gather, advance, apply, and whether this was the last round. -/
theorem receive_any (w : World) (k : Blks) (B id n width r : Nat) (Hd last : Int) (ended dec : Bool) (val rnd : Int) (cr msgs : Value) (L I S SH L1 I1 SH1 : List Int) (dec' : Bool) (val' rnd' : Int) (h : St w k id n width last ended dec val rnd cr L I S SH) (ha : k.apart B) (hB : B ≤ w.heap.size) (hid : id < n) (hr : r < width) (hn : n ≤ 64)
    (hg : Calls Tryd.prog 18 #[.pointer (some ⟨k.bp, 0, none⟩), .int .i64 r, msgs] w.drew fun e w' => e = .returned (.int .u64 Hd) ∧ St w' k id n width last ended dec val rnd cr L1 I1 S SH1 ∧ Below B w w')
    (hap : ∀ w2, St w2 k id n width last ended dec val rnd cr (L1.set id r) I1 (S.set (id * width + r) (orBit Hd id)) SH1 → Below B w w2 → Applies w2 k B id n width r last ended (L1.set id r) I1 (S.set (id * width + r) (orBit Hd id)) SH1 dec' val' rnd') :
    Calls Tryd.prog 8 #[.pointer (some ⟨k.bp, 0, none⟩), .int .i64 r, msgs] w fun e w' => e = .returned (.tuple #[]) ∧ ∃ cr', St w' k id n width last (decide (last ≤ r)) dec' val' rnd' cr' (L1.set id r) I1 (S.set (id * width + r) (orBit Hd id)) SH1 ∧ Below B w w' := by
  have c2 := h.p.cell 2
  have c0 := h.p.cell 0
  simp [procC] at c2 c0
  have hg' : Calls Tryd.prog 18 #[.pointer (some ⟨k.bp, 0, none⟩), .int .i64 r, msgs] w.drew fun e w' => e = .returned (.int .u64 Hd) ∧ w'.cell? ⟨k.bp, 2, none⟩ = some (.pointer (some ⟨k.bv, 0, none⟩)) ∧ w'.cell? ⟨k.bp, 0, none⟩ = some (.int .i64 id) ∧ Hid (St w' k id n width last ended dec val rnd cr L1 I1 S SH1 ∧ Below B w w') := by
    refine hg.mono ?_
    rintro e w' ⟨rfl, h1, h2⟩
    exact ⟨rfl, h1.p.cell 2, h1.p.cell 0, h1, h2⟩
  have HG := hideIt hg'
  have HAP := hideIt hap
  have HA := hideIt ha
  have HBs := hideIt hB
  clear hg hg' hap ha h hB
  go_enter Tryd.func8, Tryd.ntmps8
  go_wp2
  go_region_held3 (fun w' => w'.cell? ⟨k.bp, 2, none⟩ = some (.pointer (some ⟨k.bv, 0, none⟩)) ∧ w'.cell? ⟨k.bp, 0, none⟩ = some (.int .i64 id)) (first | exact ⟨by assumption, by assumption⟩ | go_keep) (first | (go_at_call 18; refine HG.out.mono ?_; rintro e w1 ⟨rfl, d2, d0, HS1⟩) | (go_at_call 17; refine (advance_at w _ k B id n width r Hd last ended dec val rnd cr L1 I1 S SH1 HS1.out.1 HA.out (Nat.le_trans HBs.out HS1.out.2.size) HS1.out.2 hid hr hn).mono ?_; rintro e w2 ⟨rfl, f2, f0, HS2⟩))
  go_wp2_with fail
  have hA := HAP.out w2 HS2.out.1 HS2.out.2
  unfold Applies at hA
  refine hA.mono ?_
  rintro e w3 ⟨rfl, cr', hst, hbel⟩
  have g7 := hst.p.cell 7
  have g8 := hst.p.cell 8
  have f8 := hst.p.frozen 8
  simp [procC] at g7 g8
  have P' := hst.p.set 8 (.bool (decide (last ≤ r)))
  have K' := (Keeps.refl [k.bp] w3).setCell (b := k.bp) (i := 8) (by simp) (.bool (decide (last ≤ r)))
  have HP := hideIt P'
  have HK := hideIt K'
  have HST := hideIt hst
  have HBL := hideIt hbel
  clear hA P' K' hst hbel d2 d0 f2 f0 c2 c0
  go_wp2
  go_end0
  have p := HA.out.pairs
  have g : ∀ x, x ≠ k.bp → x ∉ [k.bp] := fun x hx => by simpa using hx
  have h := HST.out
  have hK := HK.out
  refine ⟨rfl, cr', ⟨HP.out, hK.blk h.v (g _ (Ne.symm p.pv)), hK.blk h.l (g _ (Ne.symm p.pl)), h.ll, hK.blk h.i (g _ (Ne.symm p.pi)), h.li, hK.blk h.sh (g _ (Ne.symm p.psh)), h.lsh, hK.blk h.h (g _ (Ne.symm p.ph)), hK.blk h.s (g _ (Ne.symm p.ps)), h.ls, ?_, fun x hx => Nat.lt_of_lt_of_le (h.av x hx) hK.size⟩, (HS2.out.2.trans HBL.out).trans (hK.below (Nat.le_trans HBs.out (Nat.le_trans HS2.out.2.size HBL.out.size)) (by have := HA.out.above; simp; omega))⟩
  rcases h.c with rfl | ⟨bc, C, rfl, hb, hl, h1, h2⟩
  · exact Or.inl rfl
  · exact Or.inr ⟨bc, C, rfl, hK.blk hb (g _ (fun e => h1 (by rw [e]; simp [Blks.avoid]))), hl, h1, h2⟩
end Go.Proofs.Qxb6613198aDoor
