import Derived.Test.Qxb6613198aDoorAny
/-! What the great literal of ZZnewUnbeatable lays, whatever the order (this text was written out by a small program of its prover's). -/
namespace Go.Proofs.Qxb6613198aDoor
open Go.ChangeShapes Go.WideShapes Go.ChangeAt Go.RowKit
set_option linter.unusedVariables false

/-- What the scratch update's block holds. -/
def recvC (n rl rf ri re : Nat) (rs : Value) : Array Value :=
  #[.int .i64 n, .slice (some ⟨rl, 0, none⟩) n n, .slice (some ⟨rf, 0, none⟩) n n, .slice (some ⟨ri, 0, none⟩) n n, rs, .slice (some ⟨re, 0, none⟩) (n + 1) (n + 1)]
def vpC (id n bv br bsh : Nat) : Array Value :=
  #[.int .i64 id, .int .i64 n, .pointer (some ⟨bv, 0, none⟩), .pointer (some ⟨br, 0, none⟩), .slice (some ⟨bsh, 0, none⟩) n n, .slice none 0 0, .slice none 0 0]

def Lf (listed : Array Bool) (j : Nat) : Prop := listed.getD j false = true
theorem Lf.mono {listed : Array Bool} {i j : Nat} (h : Lf listed j) : Lf (listed.setIfInBounds i true) j := by
  unfold Lf at *
  by_cases e : i = j
  · subst e
    have hi : i < listed.size := by
      rcases Nat.lt_or_ge i listed.size with c | c
      · exact c
      · simp [c] at h
    simp [hi]
  · rw [getD_set_ne false e]; exact h
theorem Lf.back {listed : Array Bool} {i j : Nat} (e : i ≠ j) (h : Lf (listed.setIfInBounds i true) j) : Lf listed j := by
  unfold Lf at *
  rw [getD_set_ne false e] at h; exact h
theorem Lf.no {listed : Array Bool} {i : Nat} (h : listed.getD i true = false) : ¬ Lf listed i := by
  unfold Lf
  intro k
  have hi : i < listed.size := by
    rcases Nat.lt_or_ge i listed.size with c | c
    · exact c
    · simp [c] at h
  simp [hi] at h k
  rw [h] at k; cases k
theorem Lf.now {listed : Array Bool} {i : Nat} (h : listed.getD i true = false) : Lf (listed.setIfInBounds i true) i := by
  have hi : i < listed.size := by
    rcases Nat.lt_or_ge i listed.size with c | c
    · exact c
    · simp [c] at h
  unfold Lf
  simp [hi]
theorem ev_ne {a : Act} {d t : Nat} {v : Value} (h : t ≠ d) : (a.put (some d) v).eval (.tmp t) = a.eval (.tmp t) :=
  Act.eval_put fun x hx => by injection hx with hx; subst hx; intro e; injection e with e; exact h e
theorem ev_same {a : Act} {d : Nat} {v : Value} (h : d < a.tmps.size) : (a.put (some d) v).eval (.tmp d) = v := by
  simp [Act.put, Act.eval, h]

/-- Block b was made, holds C, and is number i's. -/
structure Got (w : World) (own : Nat → Nat) (lo i b : Nat) (C : Array Value) (T : TypeId) : Prop where
  blk : Blk w b C T
  lo : lo ≤ b
  own : own b = i
def updo (own : Nat → Nat) (b i : Nat) : Nat → Nat := fun x => if x = b then i else own x
theorem Got.alloc {w : World} {own : Nat → Nat} {lo i b : Nat} {C : Array Value} {T : TypeId} (h : Got w own lo i b C T) (o : Obj) (i' : Nat) : Got (w.alloc o) (updo own w.heap.size i') lo i b C T :=
  ⟨((Keeps.refl [] w).alloc o).blk h.blk (by simp), h.lo, by have := h.blk.lt; unfold updo; rw [if_neg (by omega)]; exact h.own⟩
theorem Got.new {w : World} (own : Nat → Nat) {lo : Nat} (hl : lo ≤ w.heap.size) (i : Nat) (C : Array Value) (T : TypeId) : Got (w.alloc (.cells C T)) (updo own w.heap.size i) lo i w.heap.size C T :=
  ⟨Blk.new w C T, hl, by simp [updo]⟩

structure NI (W4 : World) (n id lr bl bi bh bs : Nat) (listed : Array Bool) (a : Act) (w : World) (own : Nat → Nat) (b8 b11 b13 b15 b18 b20 b22 b26 : Nat) : Prop where
  sz : listed.size = 28
  tm : a.tmps.size = 85
  df : a.defers = []
  kp : Keeps [] W4 w
  pu : ∀ j ∈ ([0, 1, 2, 3, 4, 5, 6, 7, 9, 10, 12, 14, 16, 17, 21, 24] : List Nat), Lf listed j
  e58 : a.eval (.tmp 58) = .int .i64 id
  e59 : a.eval (.tmp 59) = .int .i64 n
  e65 : a.eval (.tmp 65) = .agg (viewC n bl bi bh bs (n * (lr + 1)) (.slice none 0 0))
  e67 : a.eval (.tmp 67) = .int .i64 n
  e68 : a.eval (.tmp 68) = .int .i64 n
  e70 : a.eval (.tmp 70) = .int .i64 n
  e72 : a.eval (.tmp 72) = .int .i64 n
  e75 : a.eval (.tmp 75) = .int .i64 ((n : Int) + 1)
  e79 : a.eval (.tmp 79) = .int .i64 n
  e82 : a.eval (.tmp 82) = .int .i64 lr
  o8 : Lf listed 8 → a.eval (.tmp 66) = .pointer (some ⟨b8, 0, none⟩) ∧ Got w own W4.heap.size 8 b8 (viewC n bl bi bh bs (n * (lr + 1)) (.slice none 0 0)) 48
  o11 : Lf listed 11 → a.eval (.tmp 69) = .slice (some ⟨b11, 0, none⟩) n n ∧ Got w own W4.heap.size 11 b11 (ints (List.replicate n 0)) 3
  o13 : Lf listed 13 → a.eval (.tmp 71) = .slice (some ⟨b13, 0, none⟩) n n ∧ Got w own W4.heap.size 13 b13 (ints (List.replicate n 0)) 3
  o15 : Lf listed 15 → a.eval (.tmp 73) = .slice (some ⟨b15, 0, none⟩) n n ∧ Got w own W4.heap.size 15 b15 (ints (List.replicate n 0)) 3
  o18 : Lf listed 18 → a.eval (.tmp 76) = .slice (some ⟨b18, 0, none⟩) (n + 1) (n + 1) ∧ Got w own W4.heap.size 18 b18 (ints (List.replicate (n + 1) 0)) 3
  o19 : Lf listed 19 → a.eval (.tmp 77) = .agg (recvC n b11 b13 b15 b18 (.slice none 0 0))
  o20 : Lf listed 20 → a.eval (.tmp 78) = .pointer (some ⟨b20, 0, none⟩) ∧ Got w own W4.heap.size 20 b20 (recvC n b11 b13 b15 b18 (.slice none 0 0)) 51
  o22 : Lf listed 22 → a.eval (.tmp 80) = .slice (some ⟨b22, 0, none⟩) n n ∧ Got w own W4.heap.size 22 b22 (ints (List.replicate n 0)) 3
  o23 : Lf listed 23 → a.eval (.tmp 81) = .agg (vpC id n b8 b20 b22)
  o25 : Lf listed 25 → a.eval (.tmp 83) = .agg (procC id n b8 b20 b22 lr false false 0 0)
  o26 : Lf listed 26 → a.eval (.tmp 84) = .pointer (some ⟨b26, 0, none⟩) ∧ Got w own W4.heap.size 26 b26 (procC id n b8 b20 b22 lr false false 0 0) 59
  o27 : Lf listed 27 → a.eval (.tmp 8) = .pointer (some ⟨b26, 0, none⟩)
  c19 : Lf listed 19 → Lf listed 11 ∧ Lf listed 13 ∧ Lf listed 15 ∧ Lf listed 18
  c20 : Lf listed 20 → Lf listed 19
  c23 : Lf listed 23 → Lf listed 8 ∧ Lf listed 20 ∧ Lf listed 22
  c25 : Lf listed 25 → Lf listed 23
  c26 : Lf listed 26 → Lf listed 25
  c27 : Lf listed 27 → Lf listed 26

theorem NI.step8 {W4 : World} {n id lr bl bi bh bs : Nat} {listed : Array Bool} {a : Act} {w : World} {own : Nat → Nat} {b8 b11 b13 b15 b18 b20 b22 b26 : Nat} (h : NI W4 n id lr bl bi bh bs listed a w own b8 b11 b13 b15 b18 b20 b22 b26) (hi : listed.getD 8 true = false) :
    NI W4 n id lr bl bi bh bs (listed.setIfInBounds 8 true) (a.put (some 66) (.pointer (some ⟨w.heap.size, 0, none⟩))) (w.alloc (.cells (viewC n bl bi bh bs (n * (lr + 1)) (.slice none 0 0)) 48)) (updo own w.heap.size 8) w.heap.size b11 b13 b15 b18 b20 b22 b26 := by
  have n8 := Lf.no hi
  have n23 : ¬ Lf listed 23 := fun q => n8 (h.c23 q).1
  have n25 : ¬ Lf listed 25 := fun q => n23 (h.c25 q)
  have n26 : ¬ Lf listed 26 := fun q => n25 (h.c26 q)
  have n27 : ¬ Lf listed 27 := fun q => n26 (h.c27 q)
  exact ⟨by simp [h.sz],
    by simp [Act.put, h.tm],
    h.df,
    h.kp.alloc _,
    fun j hj => (h.pu j hj).mono,
    by rw [ev_ne (by decide)]; exact h.e58,
    by rw [ev_ne (by decide)]; exact h.e59,
    by rw [ev_ne (by decide)]; exact h.e65,
    by rw [ev_ne (by decide)]; exact h.e67,
    by rw [ev_ne (by decide)]; exact h.e68,
    by rw [ev_ne (by decide)]; exact h.e70,
    by rw [ev_ne (by decide)]; exact h.e72,
    by rw [ev_ne (by decide)]; exact h.e75,
    by rw [ev_ne (by decide)]; exact h.e79,
    by rw [ev_ne (by decide)]; exact h.e82,
    fun _ => ⟨ev_same (by rw [h.tm]; decide), Got.new own h.kp.size 8 _ _⟩,
    fun q => ⟨by rw [ev_ne (by decide)]; exact (h.o11 (q.back (by decide))).1, (h.o11 (q.back (by decide))).2.alloc _ 8⟩,
    fun q => ⟨by rw [ev_ne (by decide)]; exact (h.o13 (q.back (by decide))).1, (h.o13 (q.back (by decide))).2.alloc _ 8⟩,
    fun q => ⟨by rw [ev_ne (by decide)]; exact (h.o15 (q.back (by decide))).1, (h.o15 (q.back (by decide))).2.alloc _ 8⟩,
    fun q => ⟨by rw [ev_ne (by decide)]; exact (h.o18 (q.back (by decide))).1, (h.o18 (q.back (by decide))).2.alloc _ 8⟩,
    fun q => by rw [ev_ne (by decide)]; exact h.o19 (q.back (by decide)),
    fun q => ⟨by rw [ev_ne (by decide)]; exact (h.o20 (q.back (by decide))).1, (h.o20 (q.back (by decide))).2.alloc _ 8⟩,
    fun q => ⟨by rw [ev_ne (by decide)]; exact (h.o22 (q.back (by decide))).1, (h.o22 (q.back (by decide))).2.alloc _ 8⟩,
    fun q => absurd (q.back (by decide)) n23,
    fun q => absurd (q.back (by decide)) n25,
    fun q => absurd (q.back (by decide)) n26,
    fun q => absurd (q.back (by decide)) n27,
    fun q => ⟨((h.c19 (q.back (by decide))).1).mono, ((h.c19 (q.back (by decide))).2.1).mono, ((h.c19 (q.back (by decide))).2.2.1).mono, ((h.c19 (q.back (by decide))).2.2.2).mono⟩,
    fun q => (h.c20 (q.back (by decide))).mono,
    fun q => absurd (q.back (by decide)) n23,
    fun q => absurd (q.back (by decide)) n25,
    fun q => absurd (q.back (by decide)) n26,
    fun q => absurd (q.back (by decide)) n27⟩

theorem NI.step11 {W4 : World} {n id lr bl bi bh bs : Nat} {listed : Array Bool} {a : Act} {w : World} {own : Nat → Nat} {b8 b11 b13 b15 b18 b20 b22 b26 : Nat} (h : NI W4 n id lr bl bi bh bs listed a w own b8 b11 b13 b15 b18 b20 b22 b26) (hi : listed.getD 11 true = false) :
    NI W4 n id lr bl bi bh bs (listed.setIfInBounds 11 true) (a.put (some 69) (.slice (some ⟨w.heap.size, 0, none⟩) n n)) (w.alloc (.cells (ints (List.replicate n 0)) 3)) (updo own w.heap.size 11) b8 w.heap.size b13 b15 b18 b20 b22 b26 := by
  have n11 := Lf.no hi
  have n19 : ¬ Lf listed 19 := fun q => n11 (h.c19 q).1
  have n20 : ¬ Lf listed 20 := fun q => n19 (h.c20 q)
  have n23 : ¬ Lf listed 23 := fun q => n20 (h.c23 q).2.1
  have n25 : ¬ Lf listed 25 := fun q => n23 (h.c25 q)
  have n26 : ¬ Lf listed 26 := fun q => n25 (h.c26 q)
  have n27 : ¬ Lf listed 27 := fun q => n26 (h.c27 q)
  exact ⟨by simp [h.sz],
    by simp [Act.put, h.tm],
    h.df,
    h.kp.alloc _,
    fun j hj => (h.pu j hj).mono,
    by rw [ev_ne (by decide)]; exact h.e58,
    by rw [ev_ne (by decide)]; exact h.e59,
    by rw [ev_ne (by decide)]; exact h.e65,
    by rw [ev_ne (by decide)]; exact h.e67,
    by rw [ev_ne (by decide)]; exact h.e68,
    by rw [ev_ne (by decide)]; exact h.e70,
    by rw [ev_ne (by decide)]; exact h.e72,
    by rw [ev_ne (by decide)]; exact h.e75,
    by rw [ev_ne (by decide)]; exact h.e79,
    by rw [ev_ne (by decide)]; exact h.e82,
    fun q => ⟨by rw [ev_ne (by decide)]; exact (h.o8 (q.back (by decide))).1, (h.o8 (q.back (by decide))).2.alloc _ 11⟩,
    fun _ => ⟨ev_same (by rw [h.tm]; decide), Got.new own h.kp.size 11 _ _⟩,
    fun q => ⟨by rw [ev_ne (by decide)]; exact (h.o13 (q.back (by decide))).1, (h.o13 (q.back (by decide))).2.alloc _ 11⟩,
    fun q => ⟨by rw [ev_ne (by decide)]; exact (h.o15 (q.back (by decide))).1, (h.o15 (q.back (by decide))).2.alloc _ 11⟩,
    fun q => ⟨by rw [ev_ne (by decide)]; exact (h.o18 (q.back (by decide))).1, (h.o18 (q.back (by decide))).2.alloc _ 11⟩,
    fun q => absurd (q.back (by decide)) n19,
    fun q => absurd (q.back (by decide)) n20,
    fun q => ⟨by rw [ev_ne (by decide)]; exact (h.o22 (q.back (by decide))).1, (h.o22 (q.back (by decide))).2.alloc _ 11⟩,
    fun q => absurd (q.back (by decide)) n23,
    fun q => absurd (q.back (by decide)) n25,
    fun q => absurd (q.back (by decide)) n26,
    fun q => absurd (q.back (by decide)) n27,
    fun q => absurd (q.back (by decide)) n19,
    fun q => absurd (q.back (by decide)) n20,
    fun q => absurd (q.back (by decide)) n23,
    fun q => absurd (q.back (by decide)) n25,
    fun q => absurd (q.back (by decide)) n26,
    fun q => absurd (q.back (by decide)) n27⟩

theorem NI.step13 {W4 : World} {n id lr bl bi bh bs : Nat} {listed : Array Bool} {a : Act} {w : World} {own : Nat → Nat} {b8 b11 b13 b15 b18 b20 b22 b26 : Nat} (h : NI W4 n id lr bl bi bh bs listed a w own b8 b11 b13 b15 b18 b20 b22 b26) (hi : listed.getD 13 true = false) :
    NI W4 n id lr bl bi bh bs (listed.setIfInBounds 13 true) (a.put (some 71) (.slice (some ⟨w.heap.size, 0, none⟩) n n)) (w.alloc (.cells (ints (List.replicate n 0)) 3)) (updo own w.heap.size 13) b8 b11 w.heap.size b15 b18 b20 b22 b26 := by
  have n13 := Lf.no hi
  have n19 : ¬ Lf listed 19 := fun q => n13 (h.c19 q).2.1
  have n20 : ¬ Lf listed 20 := fun q => n19 (h.c20 q)
  have n23 : ¬ Lf listed 23 := fun q => n20 (h.c23 q).2.1
  have n25 : ¬ Lf listed 25 := fun q => n23 (h.c25 q)
  have n26 : ¬ Lf listed 26 := fun q => n25 (h.c26 q)
  have n27 : ¬ Lf listed 27 := fun q => n26 (h.c27 q)
  exact ⟨by simp [h.sz],
    by simp [Act.put, h.tm],
    h.df,
    h.kp.alloc _,
    fun j hj => (h.pu j hj).mono,
    by rw [ev_ne (by decide)]; exact h.e58,
    by rw [ev_ne (by decide)]; exact h.e59,
    by rw [ev_ne (by decide)]; exact h.e65,
    by rw [ev_ne (by decide)]; exact h.e67,
    by rw [ev_ne (by decide)]; exact h.e68,
    by rw [ev_ne (by decide)]; exact h.e70,
    by rw [ev_ne (by decide)]; exact h.e72,
    by rw [ev_ne (by decide)]; exact h.e75,
    by rw [ev_ne (by decide)]; exact h.e79,
    by rw [ev_ne (by decide)]; exact h.e82,
    fun q => ⟨by rw [ev_ne (by decide)]; exact (h.o8 (q.back (by decide))).1, (h.o8 (q.back (by decide))).2.alloc _ 13⟩,
    fun q => ⟨by rw [ev_ne (by decide)]; exact (h.o11 (q.back (by decide))).1, (h.o11 (q.back (by decide))).2.alloc _ 13⟩,
    fun _ => ⟨ev_same (by rw [h.tm]; decide), Got.new own h.kp.size 13 _ _⟩,
    fun q => ⟨by rw [ev_ne (by decide)]; exact (h.o15 (q.back (by decide))).1, (h.o15 (q.back (by decide))).2.alloc _ 13⟩,
    fun q => ⟨by rw [ev_ne (by decide)]; exact (h.o18 (q.back (by decide))).1, (h.o18 (q.back (by decide))).2.alloc _ 13⟩,
    fun q => absurd (q.back (by decide)) n19,
    fun q => absurd (q.back (by decide)) n20,
    fun q => ⟨by rw [ev_ne (by decide)]; exact (h.o22 (q.back (by decide))).1, (h.o22 (q.back (by decide))).2.alloc _ 13⟩,
    fun q => absurd (q.back (by decide)) n23,
    fun q => absurd (q.back (by decide)) n25,
    fun q => absurd (q.back (by decide)) n26,
    fun q => absurd (q.back (by decide)) n27,
    fun q => absurd (q.back (by decide)) n19,
    fun q => absurd (q.back (by decide)) n20,
    fun q => absurd (q.back (by decide)) n23,
    fun q => absurd (q.back (by decide)) n25,
    fun q => absurd (q.back (by decide)) n26,
    fun q => absurd (q.back (by decide)) n27⟩

theorem NI.step15 {W4 : World} {n id lr bl bi bh bs : Nat} {listed : Array Bool} {a : Act} {w : World} {own : Nat → Nat} {b8 b11 b13 b15 b18 b20 b22 b26 : Nat} (h : NI W4 n id lr bl bi bh bs listed a w own b8 b11 b13 b15 b18 b20 b22 b26) (hi : listed.getD 15 true = false) :
    NI W4 n id lr bl bi bh bs (listed.setIfInBounds 15 true) (a.put (some 73) (.slice (some ⟨w.heap.size, 0, none⟩) n n)) (w.alloc (.cells (ints (List.replicate n 0)) 3)) (updo own w.heap.size 15) b8 b11 b13 w.heap.size b18 b20 b22 b26 := by
  have n15 := Lf.no hi
  have n19 : ¬ Lf listed 19 := fun q => n15 (h.c19 q).2.2.1
  have n20 : ¬ Lf listed 20 := fun q => n19 (h.c20 q)
  have n23 : ¬ Lf listed 23 := fun q => n20 (h.c23 q).2.1
  have n25 : ¬ Lf listed 25 := fun q => n23 (h.c25 q)
  have n26 : ¬ Lf listed 26 := fun q => n25 (h.c26 q)
  have n27 : ¬ Lf listed 27 := fun q => n26 (h.c27 q)
  exact ⟨by simp [h.sz],
    by simp [Act.put, h.tm],
    h.df,
    h.kp.alloc _,
    fun j hj => (h.pu j hj).mono,
    by rw [ev_ne (by decide)]; exact h.e58,
    by rw [ev_ne (by decide)]; exact h.e59,
    by rw [ev_ne (by decide)]; exact h.e65,
    by rw [ev_ne (by decide)]; exact h.e67,
    by rw [ev_ne (by decide)]; exact h.e68,
    by rw [ev_ne (by decide)]; exact h.e70,
    by rw [ev_ne (by decide)]; exact h.e72,
    by rw [ev_ne (by decide)]; exact h.e75,
    by rw [ev_ne (by decide)]; exact h.e79,
    by rw [ev_ne (by decide)]; exact h.e82,
    fun q => ⟨by rw [ev_ne (by decide)]; exact (h.o8 (q.back (by decide))).1, (h.o8 (q.back (by decide))).2.alloc _ 15⟩,
    fun q => ⟨by rw [ev_ne (by decide)]; exact (h.o11 (q.back (by decide))).1, (h.o11 (q.back (by decide))).2.alloc _ 15⟩,
    fun q => ⟨by rw [ev_ne (by decide)]; exact (h.o13 (q.back (by decide))).1, (h.o13 (q.back (by decide))).2.alloc _ 15⟩,
    fun _ => ⟨ev_same (by rw [h.tm]; decide), Got.new own h.kp.size 15 _ _⟩,
    fun q => ⟨by rw [ev_ne (by decide)]; exact (h.o18 (q.back (by decide))).1, (h.o18 (q.back (by decide))).2.alloc _ 15⟩,
    fun q => absurd (q.back (by decide)) n19,
    fun q => absurd (q.back (by decide)) n20,
    fun q => ⟨by rw [ev_ne (by decide)]; exact (h.o22 (q.back (by decide))).1, (h.o22 (q.back (by decide))).2.alloc _ 15⟩,
    fun q => absurd (q.back (by decide)) n23,
    fun q => absurd (q.back (by decide)) n25,
    fun q => absurd (q.back (by decide)) n26,
    fun q => absurd (q.back (by decide)) n27,
    fun q => absurd (q.back (by decide)) n19,
    fun q => absurd (q.back (by decide)) n20,
    fun q => absurd (q.back (by decide)) n23,
    fun q => absurd (q.back (by decide)) n25,
    fun q => absurd (q.back (by decide)) n26,
    fun q => absurd (q.back (by decide)) n27⟩

theorem NI.step18 {W4 : World} {n id lr bl bi bh bs : Nat} {listed : Array Bool} {a : Act} {w : World} {own : Nat → Nat} {b8 b11 b13 b15 b18 b20 b22 b26 : Nat} (h : NI W4 n id lr bl bi bh bs listed a w own b8 b11 b13 b15 b18 b20 b22 b26) (hi : listed.getD 18 true = false) :
    NI W4 n id lr bl bi bh bs (listed.setIfInBounds 18 true) (a.put (some 76) (.slice (some ⟨w.heap.size, 0, none⟩) (n + 1) (n + 1))) (w.alloc (.cells (ints (List.replicate (n + 1) 0)) 3)) (updo own w.heap.size 18) b8 b11 b13 b15 w.heap.size b20 b22 b26 := by
  have n18 := Lf.no hi
  have n19 : ¬ Lf listed 19 := fun q => n18 (h.c19 q).2.2.2
  have n20 : ¬ Lf listed 20 := fun q => n19 (h.c20 q)
  have n23 : ¬ Lf listed 23 := fun q => n20 (h.c23 q).2.1
  have n25 : ¬ Lf listed 25 := fun q => n23 (h.c25 q)
  have n26 : ¬ Lf listed 26 := fun q => n25 (h.c26 q)
  have n27 : ¬ Lf listed 27 := fun q => n26 (h.c27 q)
  exact ⟨by simp [h.sz],
    by simp [Act.put, h.tm],
    h.df,
    h.kp.alloc _,
    fun j hj => (h.pu j hj).mono,
    by rw [ev_ne (by decide)]; exact h.e58,
    by rw [ev_ne (by decide)]; exact h.e59,
    by rw [ev_ne (by decide)]; exact h.e65,
    by rw [ev_ne (by decide)]; exact h.e67,
    by rw [ev_ne (by decide)]; exact h.e68,
    by rw [ev_ne (by decide)]; exact h.e70,
    by rw [ev_ne (by decide)]; exact h.e72,
    by rw [ev_ne (by decide)]; exact h.e75,
    by rw [ev_ne (by decide)]; exact h.e79,
    by rw [ev_ne (by decide)]; exact h.e82,
    fun q => ⟨by rw [ev_ne (by decide)]; exact (h.o8 (q.back (by decide))).1, (h.o8 (q.back (by decide))).2.alloc _ 18⟩,
    fun q => ⟨by rw [ev_ne (by decide)]; exact (h.o11 (q.back (by decide))).1, (h.o11 (q.back (by decide))).2.alloc _ 18⟩,
    fun q => ⟨by rw [ev_ne (by decide)]; exact (h.o13 (q.back (by decide))).1, (h.o13 (q.back (by decide))).2.alloc _ 18⟩,
    fun q => ⟨by rw [ev_ne (by decide)]; exact (h.o15 (q.back (by decide))).1, (h.o15 (q.back (by decide))).2.alloc _ 18⟩,
    fun _ => ⟨ev_same (by rw [h.tm]; decide), Got.new own h.kp.size 18 _ _⟩,
    fun q => absurd (q.back (by decide)) n19,
    fun q => absurd (q.back (by decide)) n20,
    fun q => ⟨by rw [ev_ne (by decide)]; exact (h.o22 (q.back (by decide))).1, (h.o22 (q.back (by decide))).2.alloc _ 18⟩,
    fun q => absurd (q.back (by decide)) n23,
    fun q => absurd (q.back (by decide)) n25,
    fun q => absurd (q.back (by decide)) n26,
    fun q => absurd (q.back (by decide)) n27,
    fun q => absurd (q.back (by decide)) n19,
    fun q => absurd (q.back (by decide)) n20,
    fun q => absurd (q.back (by decide)) n23,
    fun q => absurd (q.back (by decide)) n25,
    fun q => absurd (q.back (by decide)) n26,
    fun q => absurd (q.back (by decide)) n27⟩

theorem NI.step19 {W4 : World} {n id lr bl bi bh bs : Nat} {listed : Array Bool} {a : Act} {w : World} {own : Nat → Nat} {b8 b11 b13 b15 b18 b20 b22 b26 : Nat} (h : NI W4 n id lr bl bi bh bs listed a w own b8 b11 b13 b15 b18 b20 b22 b26) (hi : listed.getD 19 true = false) (l11 : Lf listed 11) (l13 : Lf listed 13) (l15 : Lf listed 15) (l18 : Lf listed 18) :
    NI W4 n id lr bl bi bh bs (listed.setIfInBounds 19 true) (a.put (some 77) (.agg (recvC n b11 b13 b15 b18 (.slice none 0 0)))) w own b8 b11 b13 b15 b18 b20 b22 b26 := by
  have n19 := Lf.no hi
  have n20 : ¬ Lf listed 20 := fun q => n19 (h.c20 q)
  have n23 : ¬ Lf listed 23 := fun q => n20 (h.c23 q).2.1
  have n25 : ¬ Lf listed 25 := fun q => n23 (h.c25 q)
  have n26 : ¬ Lf listed 26 := fun q => n25 (h.c26 q)
  have n27 : ¬ Lf listed 27 := fun q => n26 (h.c27 q)
  exact ⟨by simp [h.sz],
    by simp [Act.put, h.tm],
    h.df,
    h.kp,
    fun j hj => (h.pu j hj).mono,
    by rw [ev_ne (by decide)]; exact h.e58,
    by rw [ev_ne (by decide)]; exact h.e59,
    by rw [ev_ne (by decide)]; exact h.e65,
    by rw [ev_ne (by decide)]; exact h.e67,
    by rw [ev_ne (by decide)]; exact h.e68,
    by rw [ev_ne (by decide)]; exact h.e70,
    by rw [ev_ne (by decide)]; exact h.e72,
    by rw [ev_ne (by decide)]; exact h.e75,
    by rw [ev_ne (by decide)]; exact h.e79,
    by rw [ev_ne (by decide)]; exact h.e82,
    fun q => ⟨by rw [ev_ne (by decide)]; exact (h.o8 (q.back (by decide))).1, (h.o8 (q.back (by decide))).2⟩,
    fun q => ⟨by rw [ev_ne (by decide)]; exact (h.o11 (q.back (by decide))).1, (h.o11 (q.back (by decide))).2⟩,
    fun q => ⟨by rw [ev_ne (by decide)]; exact (h.o13 (q.back (by decide))).1, (h.o13 (q.back (by decide))).2⟩,
    fun q => ⟨by rw [ev_ne (by decide)]; exact (h.o15 (q.back (by decide))).1, (h.o15 (q.back (by decide))).2⟩,
    fun q => ⟨by rw [ev_ne (by decide)]; exact (h.o18 (q.back (by decide))).1, (h.o18 (q.back (by decide))).2⟩,
    fun _ => ev_same (by rw [h.tm]; decide),
    fun q => absurd (q.back (by decide)) n20,
    fun q => ⟨by rw [ev_ne (by decide)]; exact (h.o22 (q.back (by decide))).1, (h.o22 (q.back (by decide))).2⟩,
    fun q => absurd (q.back (by decide)) n23,
    fun q => absurd (q.back (by decide)) n25,
    fun q => absurd (q.back (by decide)) n26,
    fun q => absurd (q.back (by decide)) n27,
    fun _ => ⟨l11.mono, l13.mono, l15.mono, l18.mono⟩,
    fun q => absurd (q.back (by decide)) n20,
    fun q => absurd (q.back (by decide)) n23,
    fun q => absurd (q.back (by decide)) n25,
    fun q => absurd (q.back (by decide)) n26,
    fun q => absurd (q.back (by decide)) n27⟩

theorem NI.step20 {W4 : World} {n id lr bl bi bh bs : Nat} {listed : Array Bool} {a : Act} {w : World} {own : Nat → Nat} {b8 b11 b13 b15 b18 b20 b22 b26 : Nat} (h : NI W4 n id lr bl bi bh bs listed a w own b8 b11 b13 b15 b18 b20 b22 b26) (hi : listed.getD 20 true = false) (l19 : Lf listed 19) :
    NI W4 n id lr bl bi bh bs (listed.setIfInBounds 20 true) (a.put (some 78) (.pointer (some ⟨w.heap.size, 0, none⟩))) (w.alloc (.cells (recvC n b11 b13 b15 b18 (.slice none 0 0)) 51)) (updo own w.heap.size 20) b8 b11 b13 b15 b18 w.heap.size b22 b26 := by
  have n20 := Lf.no hi
  have n23 : ¬ Lf listed 23 := fun q => n20 (h.c23 q).2.1
  have n25 : ¬ Lf listed 25 := fun q => n23 (h.c25 q)
  have n26 : ¬ Lf listed 26 := fun q => n25 (h.c26 q)
  have n27 : ¬ Lf listed 27 := fun q => n26 (h.c27 q)
  exact ⟨by simp [h.sz],
    by simp [Act.put, h.tm],
    h.df,
    h.kp.alloc _,
    fun j hj => (h.pu j hj).mono,
    by rw [ev_ne (by decide)]; exact h.e58,
    by rw [ev_ne (by decide)]; exact h.e59,
    by rw [ev_ne (by decide)]; exact h.e65,
    by rw [ev_ne (by decide)]; exact h.e67,
    by rw [ev_ne (by decide)]; exact h.e68,
    by rw [ev_ne (by decide)]; exact h.e70,
    by rw [ev_ne (by decide)]; exact h.e72,
    by rw [ev_ne (by decide)]; exact h.e75,
    by rw [ev_ne (by decide)]; exact h.e79,
    by rw [ev_ne (by decide)]; exact h.e82,
    fun q => ⟨by rw [ev_ne (by decide)]; exact (h.o8 (q.back (by decide))).1, (h.o8 (q.back (by decide))).2.alloc _ 20⟩,
    fun q => ⟨by rw [ev_ne (by decide)]; exact (h.o11 (q.back (by decide))).1, (h.o11 (q.back (by decide))).2.alloc _ 20⟩,
    fun q => ⟨by rw [ev_ne (by decide)]; exact (h.o13 (q.back (by decide))).1, (h.o13 (q.back (by decide))).2.alloc _ 20⟩,
    fun q => ⟨by rw [ev_ne (by decide)]; exact (h.o15 (q.back (by decide))).1, (h.o15 (q.back (by decide))).2.alloc _ 20⟩,
    fun q => ⟨by rw [ev_ne (by decide)]; exact (h.o18 (q.back (by decide))).1, (h.o18 (q.back (by decide))).2.alloc _ 20⟩,
    fun q => by rw [ev_ne (by decide)]; exact h.o19 (q.back (by decide)),
    fun _ => ⟨ev_same (by rw [h.tm]; decide), Got.new own h.kp.size 20 _ _⟩,
    fun q => ⟨by rw [ev_ne (by decide)]; exact (h.o22 (q.back (by decide))).1, (h.o22 (q.back (by decide))).2.alloc _ 20⟩,
    fun q => absurd (q.back (by decide)) n23,
    fun q => absurd (q.back (by decide)) n25,
    fun q => absurd (q.back (by decide)) n26,
    fun q => absurd (q.back (by decide)) n27,
    fun q => ⟨((h.c19 (q.back (by decide))).1).mono, ((h.c19 (q.back (by decide))).2.1).mono, ((h.c19 (q.back (by decide))).2.2.1).mono, ((h.c19 (q.back (by decide))).2.2.2).mono⟩,
    fun _ => l19.mono,
    fun q => absurd (q.back (by decide)) n23,
    fun q => absurd (q.back (by decide)) n25,
    fun q => absurd (q.back (by decide)) n26,
    fun q => absurd (q.back (by decide)) n27⟩

theorem NI.step22 {W4 : World} {n id lr bl bi bh bs : Nat} {listed : Array Bool} {a : Act} {w : World} {own : Nat → Nat} {b8 b11 b13 b15 b18 b20 b22 b26 : Nat} (h : NI W4 n id lr bl bi bh bs listed a w own b8 b11 b13 b15 b18 b20 b22 b26) (hi : listed.getD 22 true = false) :
    NI W4 n id lr bl bi bh bs (listed.setIfInBounds 22 true) (a.put (some 80) (.slice (some ⟨w.heap.size, 0, none⟩) n n)) (w.alloc (.cells (ints (List.replicate n 0)) 3)) (updo own w.heap.size 22) b8 b11 b13 b15 b18 b20 w.heap.size b26 := by
  have n22 := Lf.no hi
  have n23 : ¬ Lf listed 23 := fun q => n22 (h.c23 q).2.2
  have n25 : ¬ Lf listed 25 := fun q => n23 (h.c25 q)
  have n26 : ¬ Lf listed 26 := fun q => n25 (h.c26 q)
  have n27 : ¬ Lf listed 27 := fun q => n26 (h.c27 q)
  exact ⟨by simp [h.sz],
    by simp [Act.put, h.tm],
    h.df,
    h.kp.alloc _,
    fun j hj => (h.pu j hj).mono,
    by rw [ev_ne (by decide)]; exact h.e58,
    by rw [ev_ne (by decide)]; exact h.e59,
    by rw [ev_ne (by decide)]; exact h.e65,
    by rw [ev_ne (by decide)]; exact h.e67,
    by rw [ev_ne (by decide)]; exact h.e68,
    by rw [ev_ne (by decide)]; exact h.e70,
    by rw [ev_ne (by decide)]; exact h.e72,
    by rw [ev_ne (by decide)]; exact h.e75,
    by rw [ev_ne (by decide)]; exact h.e79,
    by rw [ev_ne (by decide)]; exact h.e82,
    fun q => ⟨by rw [ev_ne (by decide)]; exact (h.o8 (q.back (by decide))).1, (h.o8 (q.back (by decide))).2.alloc _ 22⟩,
    fun q => ⟨by rw [ev_ne (by decide)]; exact (h.o11 (q.back (by decide))).1, (h.o11 (q.back (by decide))).2.alloc _ 22⟩,
    fun q => ⟨by rw [ev_ne (by decide)]; exact (h.o13 (q.back (by decide))).1, (h.o13 (q.back (by decide))).2.alloc _ 22⟩,
    fun q => ⟨by rw [ev_ne (by decide)]; exact (h.o15 (q.back (by decide))).1, (h.o15 (q.back (by decide))).2.alloc _ 22⟩,
    fun q => ⟨by rw [ev_ne (by decide)]; exact (h.o18 (q.back (by decide))).1, (h.o18 (q.back (by decide))).2.alloc _ 22⟩,
    fun q => by rw [ev_ne (by decide)]; exact h.o19 (q.back (by decide)),
    fun q => ⟨by rw [ev_ne (by decide)]; exact (h.o20 (q.back (by decide))).1, (h.o20 (q.back (by decide))).2.alloc _ 22⟩,
    fun _ => ⟨ev_same (by rw [h.tm]; decide), Got.new own h.kp.size 22 _ _⟩,
    fun q => absurd (q.back (by decide)) n23,
    fun q => absurd (q.back (by decide)) n25,
    fun q => absurd (q.back (by decide)) n26,
    fun q => absurd (q.back (by decide)) n27,
    fun q => ⟨((h.c19 (q.back (by decide))).1).mono, ((h.c19 (q.back (by decide))).2.1).mono, ((h.c19 (q.back (by decide))).2.2.1).mono, ((h.c19 (q.back (by decide))).2.2.2).mono⟩,
    fun q => (h.c20 (q.back (by decide))).mono,
    fun q => absurd (q.back (by decide)) n23,
    fun q => absurd (q.back (by decide)) n25,
    fun q => absurd (q.back (by decide)) n26,
    fun q => absurd (q.back (by decide)) n27⟩

theorem NI.step23 {W4 : World} {n id lr bl bi bh bs : Nat} {listed : Array Bool} {a : Act} {w : World} {own : Nat → Nat} {b8 b11 b13 b15 b18 b20 b22 b26 : Nat} (h : NI W4 n id lr bl bi bh bs listed a w own b8 b11 b13 b15 b18 b20 b22 b26) (hi : listed.getD 23 true = false) (l8 : Lf listed 8) (l20 : Lf listed 20) (l22 : Lf listed 22) :
    NI W4 n id lr bl bi bh bs (listed.setIfInBounds 23 true) (a.put (some 81) (.agg (vpC id n b8 b20 b22))) w own b8 b11 b13 b15 b18 b20 b22 b26 := by
  have n23 := Lf.no hi
  have n25 : ¬ Lf listed 25 := fun q => n23 (h.c25 q)
  have n26 : ¬ Lf listed 26 := fun q => n25 (h.c26 q)
  have n27 : ¬ Lf listed 27 := fun q => n26 (h.c27 q)
  exact ⟨by simp [h.sz],
    by simp [Act.put, h.tm],
    h.df,
    h.kp,
    fun j hj => (h.pu j hj).mono,
    by rw [ev_ne (by decide)]; exact h.e58,
    by rw [ev_ne (by decide)]; exact h.e59,
    by rw [ev_ne (by decide)]; exact h.e65,
    by rw [ev_ne (by decide)]; exact h.e67,
    by rw [ev_ne (by decide)]; exact h.e68,
    by rw [ev_ne (by decide)]; exact h.e70,
    by rw [ev_ne (by decide)]; exact h.e72,
    by rw [ev_ne (by decide)]; exact h.e75,
    by rw [ev_ne (by decide)]; exact h.e79,
    by rw [ev_ne (by decide)]; exact h.e82,
    fun q => ⟨by rw [ev_ne (by decide)]; exact (h.o8 (q.back (by decide))).1, (h.o8 (q.back (by decide))).2⟩,
    fun q => ⟨by rw [ev_ne (by decide)]; exact (h.o11 (q.back (by decide))).1, (h.o11 (q.back (by decide))).2⟩,
    fun q => ⟨by rw [ev_ne (by decide)]; exact (h.o13 (q.back (by decide))).1, (h.o13 (q.back (by decide))).2⟩,
    fun q => ⟨by rw [ev_ne (by decide)]; exact (h.o15 (q.back (by decide))).1, (h.o15 (q.back (by decide))).2⟩,
    fun q => ⟨by rw [ev_ne (by decide)]; exact (h.o18 (q.back (by decide))).1, (h.o18 (q.back (by decide))).2⟩,
    fun q => by rw [ev_ne (by decide)]; exact h.o19 (q.back (by decide)),
    fun q => ⟨by rw [ev_ne (by decide)]; exact (h.o20 (q.back (by decide))).1, (h.o20 (q.back (by decide))).2⟩,
    fun q => ⟨by rw [ev_ne (by decide)]; exact (h.o22 (q.back (by decide))).1, (h.o22 (q.back (by decide))).2⟩,
    fun _ => ev_same (by rw [h.tm]; decide),
    fun q => absurd (q.back (by decide)) n25,
    fun q => absurd (q.back (by decide)) n26,
    fun q => absurd (q.back (by decide)) n27,
    fun q => ⟨((h.c19 (q.back (by decide))).1).mono, ((h.c19 (q.back (by decide))).2.1).mono, ((h.c19 (q.back (by decide))).2.2.1).mono, ((h.c19 (q.back (by decide))).2.2.2).mono⟩,
    fun q => (h.c20 (q.back (by decide))).mono,
    fun _ => ⟨l8.mono, l20.mono, l22.mono⟩,
    fun q => absurd (q.back (by decide)) n25,
    fun q => absurd (q.back (by decide)) n26,
    fun q => absurd (q.back (by decide)) n27⟩

theorem NI.step25 {W4 : World} {n id lr bl bi bh bs : Nat} {listed : Array Bool} {a : Act} {w : World} {own : Nat → Nat} {b8 b11 b13 b15 b18 b20 b22 b26 : Nat} (h : NI W4 n id lr bl bi bh bs listed a w own b8 b11 b13 b15 b18 b20 b22 b26) (hi : listed.getD 25 true = false) (l23 : Lf listed 23) :
    NI W4 n id lr bl bi bh bs (listed.setIfInBounds 25 true) (a.put (some 83) (.agg (procC id n b8 b20 b22 lr false false 0 0))) w own b8 b11 b13 b15 b18 b20 b22 b26 := by
  have n25 := Lf.no hi
  have n26 : ¬ Lf listed 26 := fun q => n25 (h.c26 q)
  have n27 : ¬ Lf listed 27 := fun q => n26 (h.c27 q)
  exact ⟨by simp [h.sz],
    by simp [Act.put, h.tm],
    h.df,
    h.kp,
    fun j hj => (h.pu j hj).mono,
    by rw [ev_ne (by decide)]; exact h.e58,
    by rw [ev_ne (by decide)]; exact h.e59,
    by rw [ev_ne (by decide)]; exact h.e65,
    by rw [ev_ne (by decide)]; exact h.e67,
    by rw [ev_ne (by decide)]; exact h.e68,
    by rw [ev_ne (by decide)]; exact h.e70,
    by rw [ev_ne (by decide)]; exact h.e72,
    by rw [ev_ne (by decide)]; exact h.e75,
    by rw [ev_ne (by decide)]; exact h.e79,
    by rw [ev_ne (by decide)]; exact h.e82,
    fun q => ⟨by rw [ev_ne (by decide)]; exact (h.o8 (q.back (by decide))).1, (h.o8 (q.back (by decide))).2⟩,
    fun q => ⟨by rw [ev_ne (by decide)]; exact (h.o11 (q.back (by decide))).1, (h.o11 (q.back (by decide))).2⟩,
    fun q => ⟨by rw [ev_ne (by decide)]; exact (h.o13 (q.back (by decide))).1, (h.o13 (q.back (by decide))).2⟩,
    fun q => ⟨by rw [ev_ne (by decide)]; exact (h.o15 (q.back (by decide))).1, (h.o15 (q.back (by decide))).2⟩,
    fun q => ⟨by rw [ev_ne (by decide)]; exact (h.o18 (q.back (by decide))).1, (h.o18 (q.back (by decide))).2⟩,
    fun q => by rw [ev_ne (by decide)]; exact h.o19 (q.back (by decide)),
    fun q => ⟨by rw [ev_ne (by decide)]; exact (h.o20 (q.back (by decide))).1, (h.o20 (q.back (by decide))).2⟩,
    fun q => ⟨by rw [ev_ne (by decide)]; exact (h.o22 (q.back (by decide))).1, (h.o22 (q.back (by decide))).2⟩,
    fun q => by rw [ev_ne (by decide)]; exact h.o23 (q.back (by decide)),
    fun _ => ev_same (by rw [h.tm]; decide),
    fun q => absurd (q.back (by decide)) n26,
    fun q => absurd (q.back (by decide)) n27,
    fun q => ⟨((h.c19 (q.back (by decide))).1).mono, ((h.c19 (q.back (by decide))).2.1).mono, ((h.c19 (q.back (by decide))).2.2.1).mono, ((h.c19 (q.back (by decide))).2.2.2).mono⟩,
    fun q => (h.c20 (q.back (by decide))).mono,
    fun q => ⟨((h.c23 (q.back (by decide))).1).mono, ((h.c23 (q.back (by decide))).2.1).mono, ((h.c23 (q.back (by decide))).2.2).mono⟩,
    fun _ => l23.mono,
    fun q => absurd (q.back (by decide)) n26,
    fun q => absurd (q.back (by decide)) n27⟩

theorem NI.step26 {W4 : World} {n id lr bl bi bh bs : Nat} {listed : Array Bool} {a : Act} {w : World} {own : Nat → Nat} {b8 b11 b13 b15 b18 b20 b22 b26 : Nat} (h : NI W4 n id lr bl bi bh bs listed a w own b8 b11 b13 b15 b18 b20 b22 b26) (hi : listed.getD 26 true = false) (l25 : Lf listed 25) :
    NI W4 n id lr bl bi bh bs (listed.setIfInBounds 26 true) (a.put (some 84) (.pointer (some ⟨w.heap.size, 0, none⟩))) (w.alloc (.cells (procC id n b8 b20 b22 lr false false 0 0) 59)) (updo own w.heap.size 26) b8 b11 b13 b15 b18 b20 b22 w.heap.size := by
  have n26 := Lf.no hi
  have n27 : ¬ Lf listed 27 := fun q => n26 (h.c27 q)
  exact ⟨by simp [h.sz],
    by simp [Act.put, h.tm],
    h.df,
    h.kp.alloc _,
    fun j hj => (h.pu j hj).mono,
    by rw [ev_ne (by decide)]; exact h.e58,
    by rw [ev_ne (by decide)]; exact h.e59,
    by rw [ev_ne (by decide)]; exact h.e65,
    by rw [ev_ne (by decide)]; exact h.e67,
    by rw [ev_ne (by decide)]; exact h.e68,
    by rw [ev_ne (by decide)]; exact h.e70,
    by rw [ev_ne (by decide)]; exact h.e72,
    by rw [ev_ne (by decide)]; exact h.e75,
    by rw [ev_ne (by decide)]; exact h.e79,
    by rw [ev_ne (by decide)]; exact h.e82,
    fun q => ⟨by rw [ev_ne (by decide)]; exact (h.o8 (q.back (by decide))).1, (h.o8 (q.back (by decide))).2.alloc _ 26⟩,
    fun q => ⟨by rw [ev_ne (by decide)]; exact (h.o11 (q.back (by decide))).1, (h.o11 (q.back (by decide))).2.alloc _ 26⟩,
    fun q => ⟨by rw [ev_ne (by decide)]; exact (h.o13 (q.back (by decide))).1, (h.o13 (q.back (by decide))).2.alloc _ 26⟩,
    fun q => ⟨by rw [ev_ne (by decide)]; exact (h.o15 (q.back (by decide))).1, (h.o15 (q.back (by decide))).2.alloc _ 26⟩,
    fun q => ⟨by rw [ev_ne (by decide)]; exact (h.o18 (q.back (by decide))).1, (h.o18 (q.back (by decide))).2.alloc _ 26⟩,
    fun q => by rw [ev_ne (by decide)]; exact h.o19 (q.back (by decide)),
    fun q => ⟨by rw [ev_ne (by decide)]; exact (h.o20 (q.back (by decide))).1, (h.o20 (q.back (by decide))).2.alloc _ 26⟩,
    fun q => ⟨by rw [ev_ne (by decide)]; exact (h.o22 (q.back (by decide))).1, (h.o22 (q.back (by decide))).2.alloc _ 26⟩,
    fun q => by rw [ev_ne (by decide)]; exact h.o23 (q.back (by decide)),
    fun q => by rw [ev_ne (by decide)]; exact h.o25 (q.back (by decide)),
    fun _ => ⟨ev_same (by rw [h.tm]; decide), Got.new own h.kp.size 26 _ _⟩,
    fun q => absurd (q.back (by decide)) n27,
    fun q => ⟨((h.c19 (q.back (by decide))).1).mono, ((h.c19 (q.back (by decide))).2.1).mono, ((h.c19 (q.back (by decide))).2.2.1).mono, ((h.c19 (q.back (by decide))).2.2.2).mono⟩,
    fun q => (h.c20 (q.back (by decide))).mono,
    fun q => ⟨((h.c23 (q.back (by decide))).1).mono, ((h.c23 (q.back (by decide))).2.1).mono, ((h.c23 (q.back (by decide))).2.2).mono⟩,
    fun q => (h.c25 (q.back (by decide))).mono,
    fun _ => l25.mono,
    fun q => absurd (q.back (by decide)) n27⟩

theorem NI.step27 {W4 : World} {n id lr bl bi bh bs : Nat} {listed : Array Bool} {a : Act} {w : World} {own : Nat → Nat} {b8 b11 b13 b15 b18 b20 b22 b26 : Nat} (h : NI W4 n id lr bl bi bh bs listed a w own b8 b11 b13 b15 b18 b20 b22 b26) (hi : listed.getD 27 true = false) (l26 : Lf listed 26) :
    NI W4 n id lr bl bi bh bs (listed.setIfInBounds 27 true) (a.put (some 8) (.pointer (some ⟨b26, 0, none⟩))) w own b8 b11 b13 b15 b18 b20 b22 b26 := by
  have n27 := Lf.no hi
  exact ⟨by simp [h.sz],
    by simp [Act.put, h.tm],
    h.df,
    h.kp,
    fun j hj => (h.pu j hj).mono,
    by rw [ev_ne (by decide)]; exact h.e58,
    by rw [ev_ne (by decide)]; exact h.e59,
    by rw [ev_ne (by decide)]; exact h.e65,
    by rw [ev_ne (by decide)]; exact h.e67,
    by rw [ev_ne (by decide)]; exact h.e68,
    by rw [ev_ne (by decide)]; exact h.e70,
    by rw [ev_ne (by decide)]; exact h.e72,
    by rw [ev_ne (by decide)]; exact h.e75,
    by rw [ev_ne (by decide)]; exact h.e79,
    by rw [ev_ne (by decide)]; exact h.e82,
    fun q => ⟨by rw [ev_ne (by decide)]; exact (h.o8 (q.back (by decide))).1, (h.o8 (q.back (by decide))).2⟩,
    fun q => ⟨by rw [ev_ne (by decide)]; exact (h.o11 (q.back (by decide))).1, (h.o11 (q.back (by decide))).2⟩,
    fun q => ⟨by rw [ev_ne (by decide)]; exact (h.o13 (q.back (by decide))).1, (h.o13 (q.back (by decide))).2⟩,
    fun q => ⟨by rw [ev_ne (by decide)]; exact (h.o15 (q.back (by decide))).1, (h.o15 (q.back (by decide))).2⟩,
    fun q => ⟨by rw [ev_ne (by decide)]; exact (h.o18 (q.back (by decide))).1, (h.o18 (q.back (by decide))).2⟩,
    fun q => by rw [ev_ne (by decide)]; exact h.o19 (q.back (by decide)),
    fun q => ⟨by rw [ev_ne (by decide)]; exact (h.o20 (q.back (by decide))).1, (h.o20 (q.back (by decide))).2⟩,
    fun q => ⟨by rw [ev_ne (by decide)]; exact (h.o22 (q.back (by decide))).1, (h.o22 (q.back (by decide))).2⟩,
    fun q => by rw [ev_ne (by decide)]; exact h.o23 (q.back (by decide)),
    fun q => by rw [ev_ne (by decide)]; exact h.o25 (q.back (by decide)),
    fun q => ⟨by rw [ev_ne (by decide)]; exact (h.o26 (q.back (by decide))).1, (h.o26 (q.back (by decide))).2⟩,
    fun _ => ev_same (by rw [h.tm]; decide),
    fun q => ⟨((h.c19 (q.back (by decide))).1).mono, ((h.c19 (q.back (by decide))).2.1).mono, ((h.c19 (q.back (by decide))).2.2.1).mono, ((h.c19 (q.back (by decide))).2.2.2).mono⟩,
    fun q => (h.c20 (q.back (by decide))).mono,
    fun q => ⟨((h.c23 (q.back (by decide))).1).mono, ((h.c23 (q.back (by decide))).2.1).mono, ((h.c23 (q.back (by decide))).2.2).mono⟩,
    fun q => (h.c25 (q.back (by decide))).mono,
    fun q => (h.c26 (q.back (by decide))).mono,
    fun _ => l26.mono⟩

end Go.Proofs.Qxb6613198aDoor
