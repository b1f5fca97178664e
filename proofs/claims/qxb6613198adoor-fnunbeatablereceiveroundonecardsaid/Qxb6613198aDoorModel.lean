import Derived.Test.Qxb6613198aDoorGath2
import Derived.Test.Qxb6613198aDoorShown
namespace Go.Proofs.Qxb6613198aDoor
open Go.ChangeShapes Go.WideShapes Go.ChangeAt Go.RowKit
open Plain
set_option linter.unusedVariables false
set_option linter.unusedSimpArgs false

/-! ### The law's own model of round 1: its six rows -/
def bools (l : List Bool) : Array Value := (l.map Value.bool).toArray
theorem bools_get (l : List Bool) (i : Nat) (h : i < l.length) : (bools l)[i]? = some (.bool (l.getD i false)) := by
  simp [bools, h]
theorem bools_set (l : List Bool) (i : Nat) (v : Bool) : (bools l).setIfInBounds i (.bool v) = bools (l.set i v) := by
  simp [bools, List.map_set]

structure Ap6 (B bk bi bs bc bx bn : Nat) : Prop where
  nd : [bk, bi, bs, bc, bx, bn].Nodup
  ge : ∀ x ∈ [bk, bi, bs, bc, bx, bn], B ≤ x

structure Md (w0 wx : World) (B bk bi bs bc bx bn n : Nat) (K : List Bool) (I S C X N : List Int) : Prop where
  k : Blk wx bk (bools K) 4
  lk : K.length = n
  i : Blk wx bi (ints I) 3
  li : I.length = n
  s : Blk wx bs (ints S) 3
  ls : S.length = n
  c : Blk wx bc (ints C) 3
  lc : C.length = n
  x : Blk wx bx (ints X) 3
  lx : X.length = n
  v : Blk wx bn (ints N) 3
  lv : N.length = n
  b : Below B w0 wx

theorem Md.same {w0 wx wy : World} {B bk bi bs bc bx bn n : Nat} {K : List Bool} {I S C X N : List Int} (h : Md w0 wx B bk bi bs bc bx bn n K I S C X N) (hh : wy = wx.drew) : Md w0 wy B bk bi bs bc bx bn n K I S C X N := by
  subst hh
  exact ⟨h.k, h.lk, h.i, h.li, h.s, h.ls, h.c, h.lc, h.x, h.lx, h.v, h.lv, ⟨h.b.os, h.b.tape, h.b.output, h.b.size, h.b.block⟩⟩
theorem Md.setK {w0 wx : World} {B bk bi bs bc bx bn n : Nat} {K : List Bool} {I S C X N : List Int} (h : Md w0 wx B bk bi bs bc bx bn n K I S C X N) (ha : Ap6 B bk bi bs bc bx bn) (hB : B ≤ w0.heap.size) (j : Nat) (v : Bool) : Md w0 (wx.setCell ⟨bk, j, none⟩ (.bool v)) B bk bi bs bc bx bn n (K.set j v) I S C X N := by
  have kk : Keeps [bk] wx (wx.setCell ⟨bk, j, none⟩ (.bool v)) := (Keeps.refl _ _).setCell (by simp) _
  have p' := h.k.set j (.bool v)
  rw [bools_set] at p'
  have nd := ha.nd
  simp only [List.nodup_cons, List.mem_cons, List.not_mem_nil, or_false, not_or, not_false_eq_true, List.nodup_nil, and_true] at nd
  have q : ∀ y, y ∈ [bk, bi, bs, bc, bx, bn] → y ≠ bk → y ∉ [bk] := fun y _ hy => by simpa using hy
  exact ⟨p', by simp [h.lk], kk.blk h.i (q bi (by simp) (by simp [nd, eq_comm])), h.li, kk.blk h.s (q bs (by simp) (by simp [nd, eq_comm])), h.ls, kk.blk h.c (q bc (by simp) (by simp [nd, eq_comm])), h.lc, kk.blk h.x (q bx (by simp) (by simp [nd, eq_comm])), h.lx, kk.blk h.v (q bn (by simp) (by simp [nd, eq_comm])), h.lv, h.b.trans (kk.below (Nat.le_trans hB h.b.size) (by simpa using ha.ge bk (by simp)))⟩
theorem Md.setI {w0 wx : World} {B bk bi bs bc bx bn n : Nat} {K : List Bool} {I S C X N : List Int} (h : Md w0 wx B bk bi bs bc bx bn n K I S C X N) (ha : Ap6 B bk bi bs bc bx bn) (hB : B ≤ w0.heap.size) (j : Nat) (v : Int) : Md w0 (wx.setCell ⟨bi, j, none⟩ (.int .i64 v)) B bk bi bs bc bx bn n K (I.set j v) S C X N := by
  have kk : Keeps [bi] wx (wx.setCell ⟨bi, j, none⟩ (.int .i64 v)) := (Keeps.refl _ _).setCell (by simp) _
  have p' := h.i.set j (.int .i64 v)
  rw [ints_set] at p'
  have nd := ha.nd
  simp only [List.nodup_cons, List.mem_cons, List.not_mem_nil, or_false, not_or, not_false_eq_true, List.nodup_nil, and_true] at nd
  have q : ∀ y, y ∈ [bk, bi, bs, bc, bx, bn] → y ≠ bi → y ∉ [bi] := fun y _ hy => by simpa using hy
  exact ⟨kk.blk h.k (q bk (by simp) (by simp [nd, eq_comm])), h.lk, p', by simp [h.li], kk.blk h.s (q bs (by simp) (by simp [nd, eq_comm])), h.ls, kk.blk h.c (q bc (by simp) (by simp [nd, eq_comm])), h.lc, kk.blk h.x (q bx (by simp) (by simp [nd, eq_comm])), h.lx, kk.blk h.v (q bn (by simp) (by simp [nd, eq_comm])), h.lv, h.b.trans (kk.below (Nat.le_trans hB h.b.size) (by simpa using ha.ge bi (by simp)))⟩
theorem Md.setS {w0 wx : World} {B bk bi bs bc bx bn n : Nat} {K : List Bool} {I S C X N : List Int} (h : Md w0 wx B bk bi bs bc bx bn n K I S C X N) (ha : Ap6 B bk bi bs bc bx bn) (hB : B ≤ w0.heap.size) (j : Nat) (v : Int) : Md w0 (wx.setCell ⟨bs, j, none⟩ (.int .i64 v)) B bk bi bs bc bx bn n K I (S.set j v) C X N := by
  have kk : Keeps [bs] wx (wx.setCell ⟨bs, j, none⟩ (.int .i64 v)) := (Keeps.refl _ _).setCell (by simp) _
  have p' := h.s.set j (.int .i64 v)
  rw [ints_set] at p'
  have nd := ha.nd
  simp only [List.nodup_cons, List.mem_cons, List.not_mem_nil, or_false, not_or, not_false_eq_true, List.nodup_nil, and_true] at nd
  have q : ∀ y, y ∈ [bk, bi, bs, bc, bx, bn] → y ≠ bs → y ∉ [bs] := fun y _ hy => by simpa using hy
  exact ⟨kk.blk h.k (q bk (by simp) (by simp [nd, eq_comm])), h.lk, kk.blk h.i (q bi (by simp) (by simp [nd, eq_comm])), h.li, p', by simp [h.ls], kk.blk h.c (q bc (by simp) (by simp [nd, eq_comm])), h.lc, kk.blk h.x (q bx (by simp) (by simp [nd, eq_comm])), h.lx, kk.blk h.v (q bn (by simp) (by simp [nd, eq_comm])), h.lv, h.b.trans (kk.below (Nat.le_trans hB h.b.size) (by simpa using ha.ge bs (by simp)))⟩
theorem Md.setC {w0 wx : World} {B bk bi bs bc bx bn n : Nat} {K : List Bool} {I S C X N : List Int} (h : Md w0 wx B bk bi bs bc bx bn n K I S C X N) (ha : Ap6 B bk bi bs bc bx bn) (hB : B ≤ w0.heap.size) (j : Nat) (v : Int) : Md w0 (wx.setCell ⟨bc, j, none⟩ (.int .i64 v)) B bk bi bs bc bx bn n K I S (C.set j v) X N := by
  have kk : Keeps [bc] wx (wx.setCell ⟨bc, j, none⟩ (.int .i64 v)) := (Keeps.refl _ _).setCell (by simp) _
  have p' := h.c.set j (.int .i64 v)
  rw [ints_set] at p'
  have nd := ha.nd
  simp only [List.nodup_cons, List.mem_cons, List.not_mem_nil, or_false, not_or, not_false_eq_true, List.nodup_nil, and_true] at nd
  have q : ∀ y, y ∈ [bk, bi, bs, bc, bx, bn] → y ≠ bc → y ∉ [bc] := fun y _ hy => by simpa using hy
  exact ⟨kk.blk h.k (q bk (by simp) (by simp [nd, eq_comm])), h.lk, kk.blk h.i (q bi (by simp) (by simp [nd, eq_comm])), h.li, kk.blk h.s (q bs (by simp) (by simp [nd, eq_comm])), h.ls, p', by simp [h.lc], kk.blk h.x (q bx (by simp) (by simp [nd, eq_comm])), h.lx, kk.blk h.v (q bn (by simp) (by simp [nd, eq_comm])), h.lv, h.b.trans (kk.below (Nat.le_trans hB h.b.size) (by simpa using ha.ge bc (by simp)))⟩
theorem Md.setX {w0 wx : World} {B bk bi bs bc bx bn n : Nat} {K : List Bool} {I S C X N : List Int} (h : Md w0 wx B bk bi bs bc bx bn n K I S C X N) (ha : Ap6 B bk bi bs bc bx bn) (hB : B ≤ w0.heap.size) (j : Nat) (v : Int) : Md w0 (wx.setCell ⟨bx, j, none⟩ (.int .i64 v)) B bk bi bs bc bx bn n K I S C (X.set j v) N := by
  have kk : Keeps [bx] wx (wx.setCell ⟨bx, j, none⟩ (.int .i64 v)) := (Keeps.refl _ _).setCell (by simp) _
  have p' := h.x.set j (.int .i64 v)
  rw [ints_set] at p'
  have nd := ha.nd
  simp only [List.nodup_cons, List.mem_cons, List.not_mem_nil, or_false, not_or, not_false_eq_true, List.nodup_nil, and_true] at nd
  have q : ∀ y, y ∈ [bk, bi, bs, bc, bx, bn] → y ≠ bx → y ∉ [bx] := fun y _ hy => by simpa using hy
  exact ⟨kk.blk h.k (q bk (by simp) (by simp [nd, eq_comm])), h.lk, kk.blk h.i (q bi (by simp) (by simp [nd, eq_comm])), h.li, kk.blk h.s (q bs (by simp) (by simp [nd, eq_comm])), h.ls, kk.blk h.c (q bc (by simp) (by simp [nd, eq_comm])), h.lc, p', by simp [h.lx], kk.blk h.v (q bn (by simp) (by simp [nd, eq_comm])), h.lv, h.b.trans (kk.below (Nat.le_trans hB h.b.size) (by simpa using ha.ge bx (by simp)))⟩
theorem Md.setV {w0 wx : World} {B bk bi bs bc bx bn n : Nat} {K : List Bool} {I S C X N : List Int} (h : Md w0 wx B bk bi bs bc bx bn n K I S C X N) (ha : Ap6 B bk bi bs bc bx bn) (hB : B ≤ w0.heap.size) (j : Nat) (v : Int) : Md w0 (wx.setCell ⟨bn, j, none⟩ (.int .i64 v)) B bk bi bs bc bx bn n K I S C X (N.set j v) := by
  have kk : Keeps [bn] wx (wx.setCell ⟨bn, j, none⟩ (.int .i64 v)) := (Keeps.refl _ _).setCell (by simp) _
  have p' := h.v.set j (.int .i64 v)
  rw [ints_set] at p'
  have nd := ha.nd
  simp only [List.nodup_cons, List.mem_cons, List.not_mem_nil, or_false, not_or, not_false_eq_true, List.nodup_nil, and_true] at nd
  have q : ∀ y, y ∈ [bk, bi, bs, bc, bx, bn] → y ≠ bn → y ∉ [bn] := fun y _ hy => by simpa using hy
  exact ⟨kk.blk h.k (q bk (by simp) (by simp [nd, eq_comm])), h.lk, kk.blk h.i (q bi (by simp) (by simp [nd, eq_comm])), h.li, kk.blk h.s (q bs (by simp) (by simp [nd, eq_comm])), h.ls, kk.blk h.c (q bc (by simp) (by simp [nd, eq_comm])), h.lc, kk.blk h.x (q bx (by simp) (by simp [nd, eq_comm])), h.lx, p', by simp [h.lv], h.b.trans (kk.below (Nat.le_trans hB h.b.size) (by simpa using ha.ge bn (by simp)))⟩
theorem Md.cellK {w0 wx : World} {B bk bi bs bc bx bn n : Nat} {K : List Bool} {I S C X N : List Int} (h : Md w0 wx B bk bi bs bc bx bn n K I S C X N) (j : Nat) (hj : j < n) : wx.cell? ⟨bk, j, none⟩ = some (.bool (K.getD j false)) ∧ wx.frozen? ⟨bk, j, none⟩ = false :=
  ⟨(h.k.cell j).trans (bools_get _ j (by rw [h.lk]; exact hj)), h.k.frozen j⟩
theorem Md.cellI {w0 wx : World} {B bk bi bs bc bx bn n : Nat} {K : List Bool} {I S C X N : List Int} (h : Md w0 wx B bk bi bs bc bx bn n K I S C X N) (j : Nat) (hj : j < n) : wx.cell? ⟨bi, j, none⟩ = some (.int .i64 (I.getD j 0)) ∧ wx.frozen? ⟨bi, j, none⟩ = false :=
  ⟨(h.i.cell j).trans (ints_get _ j (by rw [h.li]; exact hj)), h.i.frozen j⟩
theorem Md.cellS {w0 wx : World} {B bk bi bs bc bx bn n : Nat} {K : List Bool} {I S C X N : List Int} (h : Md w0 wx B bk bi bs bc bx bn n K I S C X N) (j : Nat) (hj : j < n) : wx.cell? ⟨bs, j, none⟩ = some (.int .i64 (S.getD j 0)) ∧ wx.frozen? ⟨bs, j, none⟩ = false :=
  ⟨(h.s.cell j).trans (ints_get _ j (by rw [h.ls]; exact hj)), h.s.frozen j⟩
theorem Md.cellC {w0 wx : World} {B bk bi bs bc bx bn n : Nat} {K : List Bool} {I S C X N : List Int} (h : Md w0 wx B bk bi bs bc bx bn n K I S C X N) (j : Nat) (hj : j < n) : wx.cell? ⟨bc, j, none⟩ = some (.int .i64 (C.getD j 0)) ∧ wx.frozen? ⟨bc, j, none⟩ = false :=
  ⟨(h.c.cell j).trans (ints_get _ j (by rw [h.lc]; exact hj)), h.c.frozen j⟩
theorem Md.cellX {w0 wx : World} {B bk bi bs bc bx bn n : Nat} {K : List Bool} {I S C X N : List Int} (h : Md w0 wx B bk bi bs bc bx bn n K I S C X N) (j : Nat) (hj : j < n) : wx.cell? ⟨bx, j, none⟩ = some (.int .i64 (X.getD j 0)) ∧ wx.frozen? ⟨bx, j, none⟩ = false :=
  ⟨(h.x.cell j).trans (ints_get _ j (by rw [h.lx]; exact hj)), h.x.frozen j⟩
theorem Md.cellV {w0 wx : World} {B bk bi bs bc bx bn n : Nat} {K : List Bool} {I S C X N : List Int} (h : Md w0 wx B bk bi bs bc bx bn n K I S C X N) (j : Nat) (hj : j < n) : wx.cell? ⟨bn, j, none⟩ = some (.int .i64 (N.getD j 0)) ∧ wx.frozen? ⟨bn, j, none⟩ = false :=
  ⟨(h.v.cell j).trans (ints_get _ j (by rw [h.lv]; exact hj)), h.v.frozen j⟩

/-- Rows that say the entries es, as far as they go. -/
structure Say3 (es : List Ent) (C X N : List Int) : Prop where
  c : ∀ h, h < es.length → C.getD h 0 = ((entAt es h).c : Int)
  x : ∀ h, h < es.length → X.getD h 0 = ((entAt es h).x : Int)
  v : ∀ h, h < es.length → N.getD h 0 = ((entAt es h).v : Int)
theorem Say3.step {es : List Ent} {C X N : List Int} (e : Ent) (h : Say3 es C X N) (hc : es.length < C.length) (hx : es.length < X.length) (hv : es.length < N.length) {C' X' N' : List Int} (ec : C' = C.set es.length (e.c : Int)) (ex : X' = X.set es.length (e.x : Int)) (ev : N' = N.set es.length (e.v : Int)) : Say3 (es ++ [e]) C' X' N' := by
  subst ec ex ev
  refine ⟨fun j hj => ?_, fun j hj => ?_, fun j hj => ?_⟩
  all_goals
    simp only [List.length_append, List.length_cons, List.length_nil] at hj
    rcases Nat.lt_or_ge j es.length with c | c
  · rw [getD_set_ne _ _ _ _ (by omega), entAt_append_lt c]; exact h.c j c
  · obtain rfl : j = es.length := by omega
    rw [getD_set_eq _ _ _ hc, entAt_append_eq]
  · rw [getD_set_ne _ _ _ _ (by omega), entAt_append_lt c]; exact h.x j c
  · obtain rfl : j = es.length := by omega
    rw [getD_set_eq _ _ _ hx, entAt_append_eq]
  · rw [getD_set_ne _ _ _ _ (by omega), entAt_append_lt c]; exact h.v j c
  · obtain rfl : j = es.length := by omega
    rw [getD_set_eq _ _ _ hv, entAt_append_eq]
theorem set_set_same (l : List Int) (i : Nat) (a b : Int) : (l.set i a).set i b = l.set i b := by simp
end Go.Proofs.Qxb6613198aDoor
