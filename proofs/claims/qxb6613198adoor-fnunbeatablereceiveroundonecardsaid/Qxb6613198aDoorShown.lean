import Derived.Test.Qxb6613198aDoorGath2
namespace Go.Proofs.Qxb6613198aDoor
open Go.ChangeShapes Go.WideShapes Go.ChangeAt Go.RowKit
open Plain
set_option linter.unusedVariables false
set_option linter.unusedSimpArgs false
def loopsOf : Code → List Code
  | .loop c => c :: loopsOf c
  | .seq a b => loopsOf a ++ loopsOf b
  | .block _ c => loopsOf c
  | .scope c => loopsOf c
  | .cond _ a b => loopsOf a ++ loopsOf b
  | _ => []
/-- The code ends by leaving block k, in R. -/
def OnExit (k : Nat) (R : Act → World → Prop) : Exit → Act → World → Prop := fun e a w => match e with
  | .exit j => j = k ∧ R a w
  | _ => False
theorem onExit_to {k : Nat} {Q : Exit → Act → World → Prop} (e : Exit) (a : Act) (w : World) (h : OnExit k (Q (.exit k)) e a w) : Q e a w := by
  cases e with
  | exit j => obtain ⟨rfl, h⟩ := h; exact h
  | _ => exact h.elim

/-- minS as far as process k. -/
def minSk (es : List Ent) (S : List Int) (k : Nat) : List Int := (List.range S.length).map fun h => if h < k then min (S.getD h 0) (((entAt es h).c : Int) - 1) else S.getD h 0
theorem minSk_zero (es : List Ent) (S : List Int) : minSk es S 0 = S := by simpa [minSk] using list_getD_range S
theorem minSk_len (es : List Ent) (S : List Int) (k : Nat) : (minSk es S k).length = S.length := by simp [minSk]
theorem minSk_all (es : List Ent) (S : List Int) : minSk es S S.length = minS es S := by
  unfold minSk minS
  apply List.map_congr_left
  intro h hh
  rw [if_pos (by simpa using hh)]
theorem minSk_get (es : List Ent) (S : List Int) (k : Nat) (hk : k < S.length) : (minSk es S k).getD k 0 = S.getD k 0 := by
  simp [minSk, List.getD, hk]
theorem minSk_set (es : List Ent) (S : List Int) (k : Nat) (hk : k < S.length) (v : Int) (hv : v = min (S.getD k 0) (((entAt es k).c : Int) - 1)) : (minSk es S k).set k v = minSk es S (k + 1) := by
  refine map_range_set _ _ _ _ _ hk (by rw [if_pos (by omega), hv]) fun j hj => ?_
  by_cases h : j < k
  · rw [if_pos h, if_pos (c := j < k + 1) (by omega)]
  · rw [if_neg h, if_neg (c := j < k + 1) (by omega)]

theorem St.setSh {w : World} {k : Blks} {B id n width : Nat} {last : Int} {ended dec : Bool} {val rnd : Int} {cr : Value} {L I S SH : List Int} (h : St w k id n width last ended dec val rnd cr L I S SH) (ha : k.apart B) (j : Nat) (x : Int) :
    St (w.setCell ⟨k.bsh, j, none⟩ (.int .i64 x)) k id n width last ended dec val rnd cr L I S (SH.set j x) := by
  have p := ha.pairs
  have hK : Keeps [k.bsh] w (w.setCell ⟨k.bsh, j, none⟩ (.int .i64 x)) := (Keeps.refl _ _).setCell (by simp) _
  have sh' := h.sh.set j (.int .i64 x)
  rw [ints_set] at sh'
  have g : ∀ y, y ≠ k.bsh → y ∉ [k.bsh] := fun y hy => by simpa using hy
  refine ⟨hK.blk h.p (g _ p.psh), hK.blk h.v (g _ (Ne.symm p.shv)), hK.blk h.l (g _ (Ne.symm p.shl)), h.ll, hK.blk h.i (g _ (Ne.symm p.shi)), h.li, sh', by simp [h.lsh], hK.blk h.h (g _ (Ne.symm p.shh)), hK.blk h.s (g _ (Ne.symm p.shs)), h.ls, ?_, fun x hx => Nat.lt_of_lt_of_le (h.av x hx) hK.size⟩
  rcases h.c with rfl | ⟨bc, C, rfl, hb, hl, h1, h2⟩
  · exact Or.inl rfl
  · exact Or.inr ⟨bc, C, rfl, hK.blk hb (g _ (fun e => h1 (by rw [e]; simp [Blks.avoid]))), hl, h1, h2⟩

theorem St.alloc {w : World} {k : Blks} {id n width : Nat} {last : Int} {ended dec : Bool} {val rnd : Int} {cr : Value} {L I S SH : List Int} (h : St w k id n width last ended dec val rnd cr L I S SH) (o : Obj) : St (w.alloc o) k id n width last ended dec val rnd cr L I S SH := by
  have k0 := (Keeps.refl [] w).alloc o
  exact h.move k0 (by simp) (by simp) (k0.blk h.l (by simp)) h.ll (k0.blk h.i (by simp)) h.li
theorem Rcv.alloc {w : World} {n br rl rf ri re : Nat} {RL RF RI : List Int} (h : Rcv w n br rl rf ri re RL RF RI) (o : Obj) : Rcv (w.alloc o) n br rl rf ri re RL RF RI := by
  have k0 := (Keeps.refl [] w).alloc o
  exact ⟨k0.blk h.r (by simp), k0.blk h.l (by simp), h.ll, k0.blk h.f (by simp), h.lf, k0.blk h.i (by simp), h.li, k0.blk h.e (by simp)⟩
theorem Rcv.setSh {w : World} {n br rl rf ri re bsh : Nat} {RL RF RI : List Int} (h : Rcv w n br rl rf ri re RL RF RI) (hne : ∀ x ∈ [br, rl, rf, ri, re], x ≠ bsh) (j : Nat) (v : Value) : Rcv (w.setCell ⟨bsh, j, none⟩ v) n br rl rf ri re RL RF RI := by
  have k0 : Keeps [bsh] w (w.setCell ⟨bsh, j, none⟩ v) := (Keeps.refl _ _).setCell (by simp) _
  have g : ∀ x ∈ [br, rl, rf, ri, re], x ∉ [bsh] := fun x hx => by simpa using hne x hx
  exact ⟨k0.blk h.r (g _ (by simp)), k0.blk h.l (g _ (by simp)), h.ll, k0.blk h.f (g _ (by simp)), h.lf, k0.blk h.i (g _ (by simp)), h.li, k0.blk h.e (g _ (by simp))⟩


noncomputable def loop18c : Code := (loopsOf (Tryd.f18.body.getD .skip)).getD 2 .skip

def ShI (w0 wx : World) (k : Blks) (B rl rf ri re id n width : Nat) (last : Int) (ended dec : Bool) (val rnd : Int) (cr : Value) (L I S SH : List Int) (RL RF RI : List Int) : Prop :=
  St wx k id n width last ended dec val rnd cr L I S SH ∧ Rcv wx n k.br rl rf ri re RL RF RI ∧ Below B w0 wx

set_option maxHeartbeats 4000000 in
set_option maxRecDepth 100000 in
theorem shown_loop (w0 w : World) (k : Blks) (B rl rf ri re id n width : Nat) (last : Int) (ended dec : Bool) (val rnd : Int) (cr : Value) (L I S SH : List Int) (RL RF RI : List Int) (es : List Ent) (c1 c2 c3 c4 c5 c6 c7 c8 c9 c10 c11 c12 c13 c14 c15 c16 c17 c18 c19 c20 c21 c22 c23 c24 c25 c26 c27 c28 c29 c30 c31 c32 c33 c34 c35 c36 c37 c38 c39 c40 c41 c42 c43 c44 c45 c46 c47 c48 c49 c50 c51 c52 c53 c54 c55 c56 c57 c58 c59 c60 c61 c62 c63 c64 c65 c66 c67 c71 c72 c73 c74 c75 c76 c77 c78 c79 c80 c81 c82 c83 c84 c85 c86 c87 c88 c89 c90 c91 c92 : Value) (Q : Exit → Act → World → Prop)
    (H0 : Hid (ShI w0 w k B rl rf ri re id n width last ended dec val rnd cr L I S SH RL RF RI)) (HA : Hid (GAp k B rl rf ri re)) (HB : Hid (B ≤ w0.heap.size)) (hn : n ≤ 64) (HEL : Hid (es.length = n)) (HSY : Hid (Says es RL RF RI))
    (HQ : Hid (∀ (u10 u11 u70 u71 u72 u73 u74 u75 u76 u77 u78 u79 u80 u81 u82 u83 u84 u85 u86 u87 u88 u89 u90 : Value) (wx : World), Hid (ShI w0 wx k B rl rf ri re id n width last ended dec val rnd cr L I S (minS es SH) RL RF RI) → Q (.exit 4) ⟨List.toArray (.pointer (some ⟨k.bp, 0, none⟩) :: c1 :: c2 :: c3 :: c4 :: c5 :: c6 :: c7 :: c8 :: c9 :: u10 :: u11 :: c12 :: c13 :: c14 :: c15 :: c16 :: c17 :: c18 :: c19 :: c20 :: c21 :: c22 :: c23 :: c24 :: c25 :: c26 :: c27 :: c28 :: c29 :: c30 :: c31 :: c32 :: c33 :: c34 :: c35 :: c36 :: c37 :: c38 :: c39 :: c40 :: c41 :: c42 :: c43 :: c44 :: c45 :: c46 :: c47 :: c48 :: c49 :: c50 :: c51 :: c52 :: c53 :: c54 :: c55 :: c56 :: c57 :: c58 :: c59 :: c60 :: c61 :: c62 :: c63 :: c64 :: c65 :: c66 :: c67 :: .slice (some ⟨rl, 0, none⟩) n n :: .int .i64 n :: u70 :: u71 :: u72 :: u73 :: u74 :: u75 :: u76 :: u77 :: u78 :: u79 :: u80 :: u81 :: u82 :: u83 :: u84 :: u85 :: u86 :: u87 :: u88 :: u89 :: u90 :: c91 :: c92 :: []), []⟩ wx)) :
    Code.wp Tryd.prog (Code.loop loop18c) Q ⟨List.toArray (.pointer (some ⟨k.bp, 0, none⟩) :: c1 :: c2 :: c3 :: c4 :: c5 :: c6 :: c7 :: c8 :: c9 :: c10 :: c11 :: c12 :: c13 :: c14 :: c15 :: c16 :: c17 :: c18 :: c19 :: c20 :: c21 :: c22 :: c23 :: c24 :: c25 :: c26 :: c27 :: c28 :: c29 :: c30 :: c31 :: c32 :: c33 :: c34 :: c35 :: c36 :: c37 :: c38 :: c39 :: c40 :: c41 :: c42 :: c43 :: c44 :: c45 :: c46 :: c47 :: c48 :: c49 :: c50 :: c51 :: c52 :: c53 :: c54 :: c55 :: c56 :: c57 :: c58 :: c59 :: c60 :: c61 :: c62 :: c63 :: c64 :: c65 :: c66 :: c67 :: .slice (some ⟨rl, 0, none⟩) n n :: .int .i64 n :: .int .i64 0 :: c71 :: c72 :: c73 :: c74 :: c75 :: c76 :: c77 :: c78 :: c79 :: c80 :: c81 :: c82 :: c83 :: c84 :: c85 :: c86 :: c87 :: c88 :: c89 :: c90 :: c91 :: c92 :: []), []⟩ w := by
  have ls : SH.length = n := H0.out.1.lsh
  refine wp_mono (Q := OnExit 4 (Q (.exit 4))) ?_ onExit_to
  conv => arg 2; arg 1; whnf
  go_loopw [70] (fun x wr => ∃ h : Nat, h ≤ n ∧ x = .int .i64 h ∧ Hid (ShI w0 wr k B rl rf ri re id n width last ended dec val rnd cr L I S (minSk es SH h) RL RF RI)) (fun x _ => n - (intOf x).toNat)
  case atStart => exact ⟨0, by omega, rfl, by rw [minSk_zero]; exact H0⟩
  case round =>
    obtain ⟨h, hh, rfl, HI⟩ := hrel
    by_cases hlh : h < n
    · have e4 : wr.cell? ⟨k.bp, 4, none⟩ = some (.slice (some ⟨k.bsh, 0, none⟩) n n) := (HI.out.1.p.cell 4).trans rfl
      have esh := (HI.out.1.sh.cell h).trans (ints_get _ h (by rw [HI.out.1.lsh]; exact hlh))
      rw [minSk_get _ _ _ (by rw [ls]; exact hlh)] at esh
      have fsh := HI.out.1.sh.frozen h
      have erl := (HI.out.2.1.l.cell h).trans (ints_get _ h (by rw [HI.out.2.1.ll]; exact hlh))
      have hsl := HSY.out.l h (by rw [HEL.out]; exact hlh)
      rw [hsl] at erl
      obtain ⟨y, hy⟩ : ∃ y : Int, y = ((entAt es h).c : Int) - 1 := ⟨_, rfl⟩
      rw [← hy] at erl
      obtain ⟨x, hx⟩ : ∃ x : Int, x = SH.getD h 0 := ⟨_, rfl⟩
      rw [← hx] at esh
      have HXY := hideIt (And.intro hx hy)
      clear hsl hx hy
      obtain ⟨W2, hW2⟩ : ∃ W2, W2 = (wr.setCell ⟨k.bsh, h, none⟩ (.int .i64 (min x y))).drew := ⟨_, rfl⟩
      have fin : Hid (ShI w0 W2 k B rl rf ri re id n width last ended dec val rnd cr L I S (minSk es SH (h + 1)) RL RF RI) := by
        have st0 : St wr.drew k id n width last ended dec val rnd cr L I S (minSk es SH h) := St.same (w := wr) (w' := wr.drew) rfl HI.out.1
        have st' := st0.setSh HA.out.a h (min x y)
        rw [minSk_set es SH h (by rw [ls]; exact hlh) _ (by rw [HXY.out.1, HXY.out.2])] at st'
        have r0 : Rcv wr.drew n k.br rl rf ri re RL RF RI := by
          have hr := HI.out.2.1
          exact ⟨hr.r, hr.l, hr.ll, hr.f, hr.lf, hr.i, hr.li, hr.e⟩
        have hr' := r0.setSh (bsh := k.bsh) (fun x hx => (HA.out.ne x hx).2.2.1) h (.int .i64 (min x y))
        have kk := ((Keeps.refl [k.bsh] wr.drew).setCell (b := k.bsh) (i := h) (by simp) (.int .i64 (min x y)))
        have hb : Below B w0 wr.drew := ⟨HI.out.2.2.os, HI.out.2.2.tape, HI.out.2.2.output, HI.out.2.2.size, HI.out.2.2.block⟩
        rw [hW2, show (wr.setCell ⟨k.bsh, h, none⟩ (.int .i64 (min x y))).drew = wr.drew.setCell ⟨k.bsh, h, none⟩ (.int .i64 (min x y)) from rfl]
        exact ⟨st', hr', hb.trans (kk.below (Nat.le_trans HB.out HI.out.2.2.size) (by have := HA.out.a.above; simp; omega))⟩
      have HW2 := hideIt hW2
      clear hW2
      go_wp2_with fail
      go_region_with (fail)
      all_goals
        rw [← HW2.out]
        go_wp2_with fail
        go_roundw
        case rel => exact ⟨h + 1, by omega, by go_num, fin.out⟩
        case measure => simp [intOf]; omega
    · obtain rfl : h = n := by omega
      have hfin := HI.out
      rw [show minSk es SH h = minS es SH from by have := minSk_all es SH; rw [ls] at this; exact this] at hfin
      have HF := hideIt hfin
      clear hfin
      go_wp2_with fail
      refine ⟨rfl, HQ.out _ _ _ _ _ _ _ _ _ _ _ _ _ _ _ _ _ _ _ _ _ _ _ _ ?_⟩
      exact HF.out
end Go.Proofs.Qxb6613198aDoor
