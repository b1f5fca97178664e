import Derived.Test.Qxb6613198aDoorParse
import Derived.Deep.CutRange
namespace Go.Proofs.Qxb6613198aDoor
open Go.ChangeShapes Go.WideShapes Go.ChangeAt Go.RowKit
open Plain
set_option linter.unusedVariables false

/-- The block of what is received, and its rows. -/
structure Rcv (w : World) (n br rl rf ri re : Nat) (RL RF RI : List Int) : Prop where
  r : Blk w br (recvC n rl rf ri re (.slice none 0 0)) 51
  l : Blk w rl (ints RL) 3
  ll : RL.length = n
  f : Blk w rf (ints RF) 3
  lf : RF.length = n
  i : Blk w ri (ints RI) 3
  li : RI.length = n
  e : Blk w re (ints (List.replicate (n + 1) 0)) 3

theorem rep_set (n i : Nat) : (List.replicate n (0 : Int)).set i 0 = List.replicate n 0 := by
  apply List.ext_getElem?
  intro j
  rw [List.getElem?_set]
  by_cases h : i = j
  · subst h
    by_cases h2 : i < n <;> simp [h2]
  · rw [if_neg h]

structure RAp (B br rl rf ri re : Nat) : Prop where
  nd : [br, rl, rf, ri, re].Nodup
  ge : ∀ x ∈ [br, rl, rf, ri, re], B ≤ x

theorem recv_slot4 (n rl rf ri re : Nat) : (recvC n rl rf ri re (.slice none 0 0)).setIfInBounds 4 (.slice none 0 0) = recvC n rl rf ri re (.slice none 0 0) := rfl

theorem Keeps.after {bs : List Nat} {a b c : World} {x : Nat} (h : Keeps bs a b) (k : Keeps [x] b c) (hx : a.heap.size ≤ x) : Keeps bs a c :=
  ⟨k.os.trans h.os, k.tape.trans h.tape, k.output.trans h.output, Nat.le_trans h.size k.size, fun i hi hb => (k.block i (Nat.lt_of_lt_of_le hi h.size) (by simp; omega)).trans (h.block i hi hb)⟩

/-- The state inside decode. -/
structure DI (w wr : World) (B n br rl rf ri re : Nat) (lh : List UInt8) (vh : Value) (RL RF RI : List Int) : Prop where
  x : Blk wr w.heap.size #[vh] 25
  y : BytB B wr vh lh
  len : lh.length ≤ 1048576
  r : Rcv wr n br rl rf ri re RL RF RI
  k : Keeps [br, rl, rf, ri, re] w wr

theorem DI.next {w wr w2 : World} {B n br rl rf ri re : Nat} {lh lh' : List UInt8} {vh v' : Value} {RL RF RI : List Int} (h : DI w wr B n br rl rf ri re lh vh RL RF RI) (hB : B ≤ w.heap.size) (hl : lh'.length ≤ lh.length)
    (hlt : ∀ x ∈ [br, rl, rf, ri, re], x < w.heap.size) (q : Blk w2 w.heap.size #[v'] 25 ∧ BytB B wr v' lh' ∧ Keeps [w.heap.size] wr w2) : DI w w2 B n br rl rf ri re lh' v' RL RF RI := by
  obtain ⟨q1, q2, q3⟩ := q
  have g : ∀ x, x ∈ [br, rl, rf, ri, re] → x ∉ [w.heap.size] := fun x hx e => by
    have := hlt x hx
    simp at e
    omega
  refine ⟨q1, q2.below (q3.below (Nat.le_trans hB h.k.size) (by simpa using hB)), Nat.le_trans hl h.len, ?_, h.k.after q3 (Nat.le_refl _)⟩
  exact ⟨q3.blk h.r.r (g _ (by simp)), q3.blk h.r.l (g _ (by simp)), h.r.ll, q3.blk h.r.f (g _ (by simp)), h.r.lf, q3.blk h.r.i (g _ (by simp)), h.r.li, q3.blk h.r.e (g _ (by simp))⟩

/-- Behind a store into a row of what is received. -/
theorem DI.setI {w wr : World} {B n br rl rf ri re : Nat} {lh : List UInt8} {vh : Value} {RL RF RI : List Int} (h : DI w wr B n br rl rf ri re lh vh RL RF RI) (hB : B ≤ w.heap.size) (ha : RAp B br rl rf ri re) (hlt : ∀ x ∈ [br, rl, rf, ri, re], x < w.heap.size) (j : Nat) (v : Int) :
    DI w (wr.setCell ⟨ri, j, none⟩ (.int .i64 v)) B n br rl rf ri re lh vh RL RF (RI.set j v) := by
  have k : Keeps [ri] wr (wr.setCell ⟨ri, j, none⟩ (.int .i64 v)) := (Keeps.refl _ _).setCell (by simp) _
  have nd := ha.nd
  simp at nd
  have a := hlt ri (by simp)
  have b := ha.ge ri (by simp)
  have i' := h.r.i.set j (.int .i64 v)
  rw [ints_set] at i'
  have g : ∀ x, x ≠ ri → x ∉ [ri] := fun x hx => by simpa using hx
  refine ⟨k.blk h.x (g _ (by omega)), h.y.below (k.below (Nat.le_trans hB h.k.size) (by simpa using b)), h.len, ?_, h.k.trans (k.mono (by simp))⟩
  exact ⟨k.blk h.r.r (g _ (by omega)), k.blk h.r.l (g _ (by omega)), h.r.ll, k.blk h.r.f (g _ (by omega)), h.r.lf, i', by simp [h.r.li], k.blk h.r.e (g _ (by omega))⟩

/-- Behind the three stores that end a round. -/
theorem DI.set3 {w wr : World} {B n br rl rf ri re : Nat} {lh : List UInt8} {vh : Value} {RL RF RI : List Int} (h : DI w wr B n br rl rf ri re lh vh RL RF RI) (hB : B ≤ w.heap.size) (ha : RAp B br rl rf ri re) (hlt : ∀ x ∈ [br, rl, rf, ri, re], x < w.heap.size) (j : Nat) (a b : Int) :
    DI w (((wr.setCell ⟨rl, j, none⟩ (.int .i64 a)).setCell ⟨rf, j, none⟩ (.int .i64 b)).setCell ⟨re, j + 1, none⟩ (.int .i64 0)) B n br rl rf ri re lh vh (RL.set j a) (RF.set j b) RI := by
  have k1 : Keeps [rl] wr (wr.setCell ⟨rl, j, none⟩ (.int .i64 a)) := (Keeps.refl _ _).setCell (by simp) _
  have k2 : Keeps [rf] (wr.setCell ⟨rl, j, none⟩ (.int .i64 a)) ((wr.setCell ⟨rl, j, none⟩ (.int .i64 a)).setCell ⟨rf, j, none⟩ (.int .i64 b)) := (Keeps.refl _ _).setCell (by simp) _
  have k3 : Keeps [re] ((wr.setCell ⟨rl, j, none⟩ (.int .i64 a)).setCell ⟨rf, j, none⟩ (.int .i64 b)) (((wr.setCell ⟨rl, j, none⟩ (.int .i64 a)).setCell ⟨rf, j, none⟩ (.int .i64 b)).setCell ⟨re, j + 1, none⟩ (.int .i64 0)) := (Keeps.refl _ _).setCell (by simp) _
  have nd := ha.nd
  simp at nd
  have e1 := hlt rl (by simp)
  have e2 := hlt rf (by simp)
  have e3 := hlt re (by simp)
  have k : Keeps [rl, rf, re] wr (((wr.setCell ⟨rl, j, none⟩ (.int .i64 a)).setCell ⟨rf, j, none⟩ (.int .i64 b)).setCell ⟨re, j + 1, none⟩ (.int .i64 0)) :=
    ((k1.mono (by simp)).trans (k2.mono (by simp))).trans (k3.mono (by simp))
  have l' := h.r.l.set j (.int .i64 a)
  rw [ints_set] at l'
  have f' := (k1.blk h.r.f (by simp; omega)).set j (.int .i64 b)
  rw [ints_set] at f'
  have e' := (k2.blk (k1.blk h.r.e (by simp; omega)) (by simp; omega)).set (j + 1) (.int .i64 0)
  rw [ints_set, rep_set] at e'
  have g : ∀ x, x ≠ rl → x ≠ rf → x ≠ re → x ∉ [rl, rf, re] := fun x h1 h2 h3 => by simp [h1, h2, h3]
  refine ⟨k.blk h.x (g _ (by omega) (by omega) (by omega)), h.y.below (k.below (Nat.le_trans hB h.k.size) (fun x hx => ha.ge x (by simp at hx ⊢; omega))), h.len, ?_, h.k.trans (k.mono (by simp))⟩
  exact ⟨k.blk h.r.r (g _ (by omega) (by omega) (by omega)), k3.blk (k2.blk l' (by simp; omega)) (by simp; omega), by simp [h.r.ll], k3.blk f' (by simp; omega), by simp [h.r.lf], k.blk h.r.i (g _ (by omega) (by omega) (by omega)), h.r.li, e'⟩

theorem DI.drew {w wr : World} {B n br rl rf ri re : Nat} {lh : List UInt8} {vh : Value} {RL RF RI : List Int} (h : DI w wr B n br rl rf ri re lh vh RL RF RI) : DI w wr.drew B n br rl rf ri re lh vh RL RF RI :=
  ⟨h.x, h.y, h.len, ⟨h.r.r, h.r.l, h.r.ll, h.r.f, h.r.lf, h.r.i, h.r.li, h.r.e⟩, h.k.drew⟩

theorem DI.facts {w wr : World} {B n br rl rf ri re : Nat} {lh : List UInt8} {vh : Value} {RL RF RI : List Int} (h : DI w wr B n br rl rf ri re lh vh RL RF RI) (j : Nat) (hj : j < n) :
    wr.cell? ⟨br, 1, none⟩ = some (.slice (some ⟨rl, 0, none⟩) n n) ∧ wr.cell? ⟨br, 2, none⟩ = some (.slice (some ⟨rf, 0, none⟩) n n) ∧ wr.cell? ⟨br, 3, none⟩ = some (.slice (some ⟨ri, 0, none⟩) n n) ∧ wr.cell? ⟨br, 4, none⟩ = some (.slice none 0 0) ∧ wr.cell? ⟨br, 5, none⟩ = some (.slice (some ⟨re, 0, none⟩) (n + 1) (n + 1)) ∧
    wr.cell? ⟨rl, j, none⟩ = some (.int .i64 (RL.getD j 0)) ∧ wr.cell? ⟨rf, j, none⟩ = some (.int .i64 (RF.getD j 0)) ∧ wr.cell? ⟨ri, j, none⟩ = some (.int .i64 (RI.getD j 0)) ∧ wr.cell? ⟨re, j + 1, none⟩ = some (.int .i64 0) ∧
    wr.frozen? ⟨rl, j, none⟩ = false ∧ wr.frozen? ⟨rf, j, none⟩ = false ∧ wr.frozen? ⟨ri, j, none⟩ = false ∧ wr.frozen? ⟨re, j + 1, none⟩ = false := by
  have hr := h.r
  refine ⟨(hr.r.cell 1).trans rfl, (hr.r.cell 2).trans rfl, (hr.r.cell 3).trans rfl, (hr.r.cell 4).trans rfl, (hr.r.cell 5).trans rfl, ?_, ?_, ?_, ?_, hr.l.frozen _, hr.f.frozen _, hr.i.frozen _, hr.e.frozen _⟩
  · exact (hr.l.cell j).trans (ints_get _ j (by rw [hr.ll]; exact hj))
  · exact (hr.f.cell j).trans (ints_get _ j (by rw [hr.lf]; exact hj))
  · exact (hr.i.cell j).trans (ints_get _ j (by rw [hr.li]; exact hj))
  · refine (hr.e.cell (j + 1)).trans ((ints_get _ (j + 1) (by simp; omega)).trans ?_)
    simp [List.getD, hj]
end Go.Proofs.Qxb6613198aDoor
