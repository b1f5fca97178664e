import Derived.Test.Qxb6613198aDoorNI
namespace Go.Proofs.Qxb6613198aDoor
open Go.ChangeShapes Go.WideShapes Go.ChangeAt Go.RowKit
open Plain
set_option linter.unusedVariables false

theorem make44 (N : Nat) (hN : N ≤ 5000000) (x : Int) (hx : x = N) (w : World) : (Instr.makeSlice 44 (.int .i64 x) (.int .i64 x)).run Tryd.prog w = .ok (.slice (some ⟨w.heap.size, 0, none⟩) N N) (w.alloc (.cells (u64s (List.replicate N 0)) 34)) := by
  subst hx
  obtain ⟨i0, hi, hz0, hz1, hz2⟩ := info_parts info34
  have h := run_make (P := Tryd.prog) w 44 34 i0 (.int .u64 0) Tryd.underlying44 hi hz0 .i64 .i64 N N (by omega) (by omega) (by rw [hz2]; omega) (by omega)
  rw [made_one _ rfl, hz1, Int.toNat_natCast, Nat.mul_one] at h
  rw [h]
  simp [u64s]

/-- The row of slices, the first 'j' of them laid. -/
def heardPart (bs n width j : Nat) : Array Value := ((List.range n).map fun h => if h < j then Value.slice (some ⟨bs, h * width, none⟩) width width else .slice none 0 0).toArray

theorem make45 (n : Nat) (hn : n ≤ 64) (w : World) : (Instr.makeSlice 45 (.int .i64 n) (.int .i64 n)).run Tryd.prog w = .ok (.slice (some ⟨w.heap.size, 0, none⟩) n n) (w.alloc (.cells ((List.replicate n (Value.slice none 0 0)).toArray) 44)) := by
  obtain ⟨i0, hi, hz0, hz1, hz2⟩ := info_parts info44
  have h := run_make (P := Tryd.prog) w 45 44 i0 (.slice none 0 0) Tryd.underlying45 hi hz0 .i64 .i64 n n (by omega) (by omega) (by rw [hz2]; omega) (by omega)
  rw [made_one _ rfl, hz1, Int.toNat_natCast, Nat.mul_one] at h
  exact h

theorem heardPart_zero (bs n width : Nat) : heardPart bs n width 0 = (List.replicate n (Value.slice none 0 0)).toArray := by
  unfold heardPart
  congr 1
  apply List.ext_getElem
  · simp
  · intro i h1 h2; simp
theorem heardPart_all (bs n width : Nat) : heardPart bs n width n = heardC bs n width := by
  unfold heardPart heardC
  congr 1
  apply List.map_congr_left
  intro h hh
  rw [if_pos (by simpa using hh)]
theorem heardPart_get (bs n width j h : Nat) (hh : h < n) : ∃ v, (heardPart bs n width j)[h]? = some v := ⟨_, by simp [heardPart, hh]; rfl⟩
theorem heardPart_succ (bs n width j : Nat) (hj : j < n) : (heardPart bs n width j).setIfInBounds j (.slice (some ⟨bs, j * width, none⟩) width width) = heardPart bs n width (j + 1) := by
  apply Array.ext_getElem?
  intro i
  rw [Array.getElem?_setIfInBounds]
  by_cases e : j = i
  · subst e
    simp [heardPart, hj]
  · rw [if_neg e]
    by_cases c : i < n
    · simp only [heardPart, List.getElem?_toArray, List.getElem?_map, List.getElem?_range c, Option.map_some]
      by_cases d : i < j
      · rw [if_pos d, if_pos (by omega)]
      · rw [if_neg d, if_neg (by omega)]
    · simp [heardPart, c]

theorem slice44 (w : World) (b N lo width : Nat) (h : lo + width ≤ N) (hw : 0 < width) (x y : Int) (hx : x = lo) (hy : y = ((lo + width : Nat) : Int)) :
    (Instr.slice 44 (.slice (some ⟨b, 0, none⟩) N N) (some (.int .i64 x)) (some (.int .i64 y)) (some (.int .i64 y))).run Tryd.prog w = .ok (.slice (some ⟨b, lo, none⟩) width width) w := by
  subst hx hy
  have hs : (sizeOf (Tryd.prog.elem 44)).run Tryd.prog w = .ok 1 w := by kernel_rfl
  have he : Tryd.prog.underlying 44 = some (.slice (Tryd.prog.elem 44)) := by kernel_rfl
  have h := run_slice_lhm (P := Tryd.prog) w 44 (some ⟨b, 0, none⟩) N N he .i64 .i64 .i64 lo ((lo + width : Nat) : Int) ((lo + width : Nat) : Int) (by omega) (by omega) (by omega) (by omega)
  rw [h, hs]
  have ne : ¬ lo + width = lo := by omega
  simp only [Result.andThen, sliced, Int.toNat_natCast, Nat.mul_one, if_neg ne, Option.map_some, Nat.add_sub_cancel_left]
  unfold Addr.add
  by_cases hz : lo = 0
  · subst hz; simp
  · simp [hz]

/-- A process as it stands new in memory. -/
structure Fresh (w w' : World) (id n lr : Nat) (input : Int) (k : Blks) (rl rf ri re : Nat) : Prop where
  st : St w' k id n (lr + 1) lr false false 0 0 (.slice none 0 0) ((List.replicate n (-1)).set id 0) ((List.replicate n 0).set id input) (List.replicate (n * (lr + 1)) 0) (List.replicate n 0)
  r : Blk w' k.br (recvC n rl rf ri re (.slice none 0 0)) 51
  l : Blk w' rl (ints (List.replicate n 0)) 3
  f : Blk w' rf (ints (List.replicate n 0)) 3
  i : Blk w' ri (ints (List.replicate n 0)) 3
  e : Blk w' re (ints (List.replicate (n + 1) 0)) 3
  ap : k.apart w.heap.size
  ex : k.ex = rl :: rf :: ri :: re :: List.range w.heap.size
  bel : Below w.heap.size w w'

theorem nodup_of_map (f : Nat → Nat) : ∀ l : List Nat, (l.map f).Nodup → l.Nodup
  | [], _ => List.nodup_nil
  | a :: l, h => by
    rw [List.map_cons, List.nodup_cons] at h
    rw [List.nodup_cons]
    exact ⟨fun ha => h.1 (List.mem_map_of_mem ha), nodup_of_map f l h.2⟩

theorem fresh_of {w W4 w' : World} {n id lr bi : Nat} {input : Int} {listed : Array Bool} {a : Act} {own : Nat → Nat} {b8 b11 b13 b15 b18 b20 b22 b26 : Nat} (h0 : 0 < w.heap.size)
    (h : NI W4 n id lr (w.heap.size + 1 + 1) bi (w.heap.size + 1) w.heap.size listed a w' own b8 b11 b13 b15 b18 b20 b22 b26) (L : ∀ i, i < 28 → Lf listed i)
    (f0 : Blk W4 w.heap.size (u64s (List.replicate (n * (lr + 1)) 0)) 34) (f1 : Blk W4 (w.heap.size + 1) (heardC w.heap.size n (lr + 1)) 44) (f2 : Blk W4 (w.heap.size + 1 + 1) (ints ((List.replicate n (-1)).set id 0)) 3)
    (f3 : Blk W4 bi (ints ((List.replicate n 0).set id input)) 3) (kW : Keeps [] w W4) (sz : W4.heap.size = w.heap.size + 4) (hbi : bi = w.heap.size + 3) :
    Fresh w w' id n lr input ⟨b26, b8, b20, b22, w.heap.size + 1 + 1, bi, w.heap.size + 1, w.heap.size, b11 :: b13 :: b15 :: b18 :: List.range w.heap.size⟩ b11 b13 b15 b18 := by
  obtain ⟨_, g8⟩ := h.o8 (L 8 (by omega))
  obtain ⟨_, g11⟩ := h.o11 (L 11 (by omega))
  obtain ⟨_, g13⟩ := h.o13 (L 13 (by omega))
  obtain ⟨_, g15⟩ := h.o15 (L 15 (by omega))
  obtain ⟨_, g18⟩ := h.o18 (L 18 (by omega))
  obtain ⟨_, g20⟩ := h.o20 (L 20 (by omega))
  obtain ⟨_, g22⟩ := h.o22 (L 22 (by omega))
  obtain ⟨_, g26⟩ := h.o26 (L 26 (by omega))
  have K := h.kp
  have o8 := g8.own; have o11 := g11.own; have o13 := g13.own; have o15 := g15.own
  have o18 := g18.own; have o20 := g20.own; have o22 := g22.own; have o26 := g26.own
  have q8 := g8.lo; have q11 := g11.lo; have q13 := g13.lo; have q15 := g15.lo
  have q18 := g18.lo; have q20 := g20.lo; have q22 := g22.lo; have q26 := g26.lo
  rw [sz] at q8 q11 q13 q15 q18 q20 q22 q26
  have s0 := kW.size
  have s1 := K.size
  have av : ∀ x ∈ (⟨b26, b8, b20, b22, w.heap.size + 1 + 1, bi, w.heap.size + 1, w.heap.size, b11 :: b13 :: b15 :: b18 :: List.range w.heap.size⟩ : Blks).avoid, x < w'.heap.size := by
    have t1 := g26.blk.lt; have t2 := g20.blk.lt; have t3 := g22.blk.lt; have t4 := g11.blk.lt
    have t5 := g13.blk.lt; have t6 := g15.blk.lt; have t7 := g18.blk.lt
    intro x hx
    simp only [Blks.avoid, List.mem_cons, List.mem_range] at hx
    omega
  refine ⟨⟨g26.blk, g8.blk, K.blk f2 (by simp), by simp, K.blk f3 (by simp), by simp, g22.blk, by simp, K.blk f1 (by simp), K.blk f0 (by simp), by simp, Or.inl rfl, av⟩, g20.blk, g11.blk, g13.blk, g15.blk, g18.blk, ⟨?_, h0, ?_⟩, rfl, (kW.below (Nat.le_refl _) (by simp)).trans (K.below (by omega) (by simp))⟩
  · let f : Nat → Nat := fun x => if x < w.heap.size + 4 then x else w.heap.size + 4 + own x
    have hr : (List.range w.heap.size).map f = List.range w.heap.size := by
      conv => rhs; rw [← List.map_id (List.range w.heap.size)]
      apply List.map_congr_left
      intro x hx
      have := List.mem_range.1 hx
      show (if x < w.heap.size + 4 then x else _) = x
      rw [if_pos (by omega)]
    have hf : ∀ x i, w.heap.size + 4 ≤ x → own x = i → f x = w.heap.size + 4 + i := fun x i h1 h2 => by
      show (if x < w.heap.size + 4 then x else _) = _
      rw [if_neg (by omega), h2]
    have hg : ∀ x, x < w.heap.size + 4 → f x = x := fun x h1 => by
      show (if x < w.heap.size + 4 then x else _) = _
      rw [if_pos h1]
    apply nodup_of_map f
    show (List.map f (b8 :: b26 :: b20 :: b22 :: (w.heap.size + 1 + 1) :: bi :: (w.heap.size + 1) :: w.heap.size :: b11 :: b13 :: b15 :: b18 :: List.range w.heap.size)).Nodup
    simp only [List.map_cons, hr, hf b8 8 q8 o8, hf b26 26 q26 o26, hf b20 20 q20 o20, hf b22 22 q22 o22, hf b11 11 q11 o11, hf b13 13 q13 o13, hf b15 15 q15 o15, hf b18 18 q18 o18, hg (w.heap.size + 1 + 1) (by omega), hg bi (by omega), hg (w.heap.size + 1) (by omega), hg w.heap.size (by omega)]
    simp only [List.nodup_cons, List.mem_cons, List.mem_range, not_or]
    refine ⟨?_, ?_, ?_, ?_, ?_, ?_, ?_, ?_, ?_, ?_, ?_, ?_, List.nodup_range⟩
    all_goals omega
  · intro x hx
    simp [hx]

theorem evt (a : Act) (t : Nat) : a.eval (.tmp t) = a.tmps[t]?.getD undef := by simp [Act.eval]

theorem ni_pick {W4 : World} {n id lr bl bi bh bs : Nat} {listed : Array Bool} {a : Act} {w : World} {own : Nat → Nat} {b8 b11 b13 b15 b18 b20 b22 b26 : Nat} (h : NI W4 n id lr bl bi bh bs listed a w own b8 b11 b13 b15 b18 b20 b22 b26) {i : Nat} (hf : listed.getD i true = false) :
    i = 8 ∨ i = 11 ∨ i = 13 ∨ i = 15 ∨ i = 18 ∨ i = 19 ∨ i = 20 ∨ i = 22 ∨ i = 23 ∨ i = 25 ∨ i = 26 ∨ i = 27 := by
  have hlt : i < 28 := by
    rw [← h.sz]
    rcases Nat.lt_or_ge i listed.size with c | c
    · exact c
    · simp [c] at hf
  have all : ∀ i, i < 28 → i ∈ ([0, 1, 2, 3, 4, 5, 6, 7, 9, 10, 12, 14, 16, 17, 21, 24] : List Nat) ∨ (i = 8 ∨ i = 11 ∨ i = 13 ∨ i = 15 ∨ i = 18 ∨ i = 19 ∨ i = 20 ∨ i = 22 ∨ i = 23 ∨ i = 25 ∨ i = 26 ∨ i = 27) := by decide
  rcases all i hlt with c | c
  · exact absurd (h.pu i c) (Lf.no hf)
  · exact c

set_option maxHeartbeats 2000000 in
set_option maxRecDepth 100000 in
theorem new_any (w : World) (id n lr : Nat) (input : Int) (h1 : 1 ≤ n) (h2 : n ≤ 64) (hid : id < n) (hl1 : 1 ≤ lr) (hl2 : lr ≤ 65536) (h0 : 0 < w.heap.size) :
    Calls Tryd.prog 6 #[.int .i64 id, .int .i64 n, .int .i64 input, .int .i64 lr] w fun e w' => ∃ k rl rf ri re, e = .returned (.pointer (some ⟨k.bp, 0, none⟩)) ∧ Fresh w w' id n lr input k rl rf ri re := by
  have hN : n * (lr + 1) ≤ 64 * 65537 := Nat.mul_le_mul h2 (by omega)
  have m44 := make44 (n * (lr + 1)) (by omega) ((n : Int) * ((lr : Int) + 1)) (by rw [Int.natCast_mul]; rfl)
  have m45 := make45 n h2
  have m22 := make22 n (by omega)
  have m22' := fun wx => make22 (n + 1) (by omega) wx
  rw [show (((n + 1 : Nat) : Int)) = (n : Int) + 1 from rfl] at m22'
  have b1 : (n : Int) * ((lr : Int) + 1) ≤ 4194368 := by
    have : ((n * (lr + 1) : Nat) : Int) ≤ ((64 * 65537 : Nat) : Int) := Int.ofNat_le.2 hN
    rw [Int.natCast_mul] at this
    simpa using this
  have b0 : (0 : Int) ≤ (n : Int) * ((lr : Int) + 1) := Int.mul_nonneg (by omega) (by omega)
  go_enter Tryd.func6, Tryd.ntmps6
  go_wp2
  obtain ⟨W0, hW0⟩ : ∃ W0, W0 = ((w.alloc (.cells (u64s (List.replicate (n * (lr + 1)) 0)) 34)).alloc (.cells (Array.replicate n (Value.slice none 0 0)) 44)).alloc (.cells (ints (List.replicate n 0)) 3) := ⟨_, rfl⟩
  rw [← hW0]
  have q0 : Blk W0 w.heap.size (u64s (List.replicate (n * (lr + 1)) 0)) 34 := by
    rw [hW0]; exact (((Keeps.refl [] _).alloc _).alloc _).blk (Blk.new w _ _) (by simp)
  have q1 : Blk W0 (w.heap.size + 1) (heardPart w.heap.size n (lr + 1) 0) 44 := by
    rw [hW0, heardPart_zero]
    have := ((Keeps.refl [] _).alloc (.cells (ints (List.replicate n 0)) 3)).blk (Blk.new (w.alloc (.cells (u64s (List.replicate (n * (lr + 1)) 0)) 34)) (Array.replicate n (Value.slice none 0 0)) 44) (by simp)
    simpa using this
  have q2 : Blk W0 (w.heap.size + 1 + 1) (ints (fillTo (List.replicate n 0) 0 (-1))) 3 := by
    rw [hW0, fillTo_zero]
    have := Blk.new ((w.alloc (.cells (u64s (List.replicate (n * (lr + 1)) 0)) 34)).alloc (.cells (Array.replicate n (Value.slice none 0 0)) 44)) (ints (List.replicate n 0)) 3
    simpa using this
  have q3 : Keeps [] w W0 := by rw [hW0]; exact (((Keeps.refl [] w).alloc _).alloc _).alloc _
  have q4 : W0.heap.size = w.heap.size + 3 := by rw [hW0]; simp
  have Q0 := hideIt q0
  have Q1 := hideIt q1
  have Q2 := hideIt q2
  have Q3 := hideIt q3
  have Q4 := hideIt q4
  clear q0 q1 q2 q3 q4 hW0 m44 m45
  go_loopw [13] (fun i wr => ∃ j : Nat, j ≤ n ∧ i = .int .i64 j ∧ Hid (Blk wr (w.heap.size + 1) (heardPart w.heap.size n (lr + 1) j) 44 ∧ Blk wr (w.heap.size + 1 + 1) (ints (fillTo (List.replicate n 0) j (-1))) 3 ∧ Keeps [w.heap.size + 1, w.heap.size + 1 + 1] W0 wr ∧ wr.heap.size = w.heap.size + 3)) (fun i _ => n - (intOf i).toNat)
  case atStart => exact ⟨0, by omega, rfl, Q1.out, Q2.out, Keeps.refl _ _, Q4.out⟩
  case round =>
    obtain ⟨j, hj, rfl, HB⟩ := hrel
    by_cases hlt : j < n
    · have hjN : j * (lr + 1) + (lr + 1) ≤ n * (lr + 1) := by
        have : (j + 1) * (lr + 1) ≤ n * (lr + 1) := Nat.mul_le_mul_right _ hlt
        rw [Nat.succ_mul] at this
        exact this
      have ej : ((j : Int) + 1) * ((lr : Int) + 1) = ((j * (lr + 1) + (lr + 1) : Nat) : Int) := by
        rw [← Nat.succ_mul, Int.natCast_mul]; rfl
      have e0 : (j : Int) * ((lr : Int) + 1) = ((j * (lr + 1) : Nat) : Int) := by rw [Int.natCast_mul]; rfl
      have hsl := fun wx => slice44 wx w.heap.size (n * (lr + 1)) (j * (lr + 1)) (lr + 1) hjN (by omega) (wrap64 ((j : Int) * ((lr : Int) + 1))) (wrap64 (((j : Int) + 1) * ((lr : Int) + 1))) (by rw [e0]; unfold wrap64; omega) (by rw [ej]; unfold wrap64; omega)
      obtain ⟨vh, hvh⟩ := heardPart_get w.heap.size n (lr + 1) j j hlt
      have ch := (HB.out.1.cell j).trans hvh
      have fh := HB.out.1.frozen j
      have HB1 := hideIt (HB.out.1.set j (.slice (some ⟨w.heap.size, j * (lr + 1), none⟩) (lr + 1) (lr + 1)))
      clear e0 ej hvh hjN hN b0 b1
      go_upto_region 9 with fail
      obtain ⟨W2, hW2⟩ : ∃ W2, W2 = wr.setCell ⟨w.heap.size + 1, j, none⟩ (.slice (some ⟨w.heap.size, j * (lr + 1), none⟩) (lr + 1) (lr + 1)) := ⟨_, rfl⟩
      rw [← hW2]
      have g1 : Blk W2 (w.heap.size + 1) (heardPart w.heap.size n (lr + 1) (j + 1)) 44 := by rw [hW2, ← heardPart_succ _ _ _ _ hlt]; exact HB1.out
      have gk : Keeps [w.heap.size + 1] wr W2 := by rw [hW2]; exact (Keeps.refl _ _).setCell (by simp) _
      have gs : W2.heap.size = w.heap.size + 3 := by rw [hW2, ← HB.out.2.2.2]; simp [World.setCell]
      have g2 := gk.blk HB.out.2.1 (by simp)
      have cl := (g2.cell j).trans (ints_get _ j (by rw [fillTo_len _ _ _ (by simp; omega)]; simpa using hlt))
      have fl := g2.frozen j
      have B' := g2.set j (.int .i64 (-1))
      rw [ints_set, fillTo_succ _ _ _ (by simpa using hlt)] at B'
      have KB := (Keeps.refl [w.heap.size + 1 + 1] W2).setCell (b := w.heap.size + 1 + 1) (i := j) (by simp) (.int .i64 (-1))
      have G1 := hideIt (KB.blk g1 (by simp))
      have G2 := hideIt B'
      have GK := hideIt (((HB.out.2.2.1.trans (gk.mono (by simp))).trans (KB.mono (by simp))))
      have GS : Hid ((W2.setCell ⟨w.heap.size + 1 + 1, j, none⟩ (.int .i64 (-1))).heap.size = w.heap.size + 3) := by show _ = _; rw [← gs]; simp [World.setCell]
      clear hW2 g1 gk gs g2 B' KB ch fh hsl
      go_wp2
      go_roundw
      case rel => exact ⟨j + 1, by omega, by go_num, G1.out, G2.out, GK.out, GS.out⟩
      case measure => simp [intOf]; omega
    · obtain rfl : n = j := by omega
      have q0 := HB.out.2.2.1.blk Q0.out (by simp; omega)
      have q1 := HB.out.1
      rw [heardPart_all] at q1
      have q2 := HB.out.2.1
      rw [show fillTo (List.replicate n 0) n (-1) = List.replicate n (-1) from by have := fillTo_all (List.replicate n (0 : Int)) (-1); simpa using this] at q2
      have cl := (q2.cell id).trans (ints_get _ id (by simpa using hid))
      have fl := q2.frozen id
      have ri : (ints (List.replicate n 0))[id]? = some (.int .i64 0) := by simp [ints, hid]
      have QB0 := hideIt q0
      have QB1 := hideIt q1
      have QB2 := hideIt q2
      clear q0 q1 q2 hN b0 b1
      go_wp2
      refine wp_region_any (by kernel_rfl) ?_
      refine wpAny_take (i := 0) (v := ?_) rfl (by kernel_rfl) (by kernel_rfl) (by kernel_rfl) (fun _ _ _ h => h) (Or.inl ⟨by rfl, by intro w; go_simp; with_reducible rfl⟩) ?_
      refine wpAny_take (i := 1) (v := ?_) rfl (by kernel_rfl) (by kernel_rfl) (by kernel_rfl) (fun _ _ _ h => h) (Or.inl ⟨by rfl, by intro w; go_simp; with_reducible rfl⟩) ?_
      refine wpAny_take (i := 2) (v := ?_) rfl (by kernel_rfl) (by kernel_rfl) (by kernel_rfl) (fun _ _ _ h => h) (Or.inl ⟨by rfl, by intro w; go_simp; with_reducible rfl⟩) ?_
      refine wpAny_take (i := 3) (v := ?_) rfl (by kernel_rfl) (by kernel_rfl) (by kernel_rfl) (fun _ _ _ h => h) (Or.inl ⟨by rfl, by intro w; go_simp; with_reducible rfl⟩) ?_
      refine wpAny_take (i := 4) (v := ?_) rfl (by kernel_rfl) (by kernel_rfl) (by kernel_rfl) (fun _ _ _ h => h) (Or.inl ⟨by rfl, by intro w; go_simp; with_reducible rfl⟩) ?_
      refine wpAny_take (i := 5) (v := ?_) rfl (by kernel_rfl) (by kernel_rfl) (by kernel_rfl) (fun _ _ _ h => h) (Or.inl ⟨by rfl, by intro w; go_simp; with_reducible rfl⟩) ?_
      refine wpAny_take (i := 6) (v := ?_) rfl (by kernel_rfl) (by kernel_rfl) (by kernel_rfl) (fun _ _ _ h => h) (Or.inl ⟨by rfl, by intro w; go_simp; with_reducible rfl⟩) ?_
      refine wpAny_take (i := 7) (v := ?_) rfl (by kernel_rfl) (by kernel_rfl) (by kernel_rfl) (fun _ _ _ h => h) (Or.inl ⟨by rfl, by intro w; go_simp; with_reducible rfl⟩) ?_
      refine wpAny_take (i := 9) (v := ?_) rfl (by kernel_rfl) (by kernel_rfl) (by kernel_rfl) (fun _ _ _ h => h) (Or.inl ⟨by rfl, by intro w; go_simp; with_reducible rfl⟩) ?_
      refine wpAny_take (i := 10) (v := ?_) rfl (by kernel_rfl) (by kernel_rfl) (by kernel_rfl) (fun _ _ _ h => h) (Or.inl ⟨by rfl, by intro w; go_simp; with_reducible rfl⟩) ?_
      refine wpAny_take (i := 12) (v := ?_) rfl (by kernel_rfl) (by kernel_rfl) (by kernel_rfl) (fun _ _ _ h => h) (Or.inl ⟨by rfl, by intro w; go_simp; with_reducible rfl⟩) ?_
      refine wpAny_take (i := 14) (v := ?_) rfl (by kernel_rfl) (by kernel_rfl) (by kernel_rfl) (fun _ _ _ h => h) (Or.inl ⟨by rfl, by intro w; go_simp; with_reducible rfl⟩) ?_
      refine wpAny_take (i := 16) (v := ?_) rfl (by kernel_rfl) (by kernel_rfl) (by kernel_rfl) (fun _ _ _ h => h) (Or.inl ⟨by rfl, by intro w; go_simp; with_reducible rfl⟩) ?_
      refine wpAny_take (i := 17) (v := .int .i64 ((n : Int) + 1)) rfl (by kernel_rfl) (by kernel_rfl) (by kernel_rfl) (fun _ _ _ h => h) (Or.inl ⟨by rfl, by intro w; go_simp; rw [IntKind.wrap_i64]; omega⟩) ?_
      refine wpAny_take (i := 21) (v := ?_) rfl (by kernel_rfl) (by kernel_rfl) (by kernel_rfl) (fun _ _ _ h => h) (Or.inl ⟨by rfl, by intro w; go_simp; with_reducible rfl⟩) ?_
      refine wpAny_take (i := 24) (v := ?_) rfl (by kernel_rfl) (by kernel_rfl) (by kernel_rfl) (fun _ _ _ h => h) (Or.inl ⟨by rfl, by intro w; go_simp; with_reducible rfl⟩) ?_
      obtain ⟨W4, hW4⟩ : ∃ W4, W4 = (wr.setCell ⟨w.heap.size + 1 + 1, id, none⟩ (.int .i64 0)).alloc (.cells ((ints (List.replicate n 0)).setIfInBounds id (.int .i64 input)) 3) := ⟨_, rfl⟩
      rw [← hW4]
      refine wpAny_inv (fun listed a w' => ∃ own b8 b11 b13 b15 b18 b20 b22 b26, NI W4 n id lr (w.heap.size + 1 + 1) wr.heap.size (w.heap.size + 1) w.heap.size listed a w' own b8 b11 b13 b15 b18 b20 b22 b26) (by kernel_rfl) ?sz ?step ?done _ _ _ _ (by decide +kernel) ?init
      case sz => rintro listed a w' ⟨own, b8, b11, b13, b15, b18, b20, b22, b26, h⟩; exact h.sz
      case init => exact ⟨fun _ => 0, 0, 0, 0, 0, 0, 0, 0, 0, ⟨by kernel_rfl, by kernel_rfl, by kernel_rfl, ⟨rfl, rfl, rfl, Nat.le_refl _, fun _ _ _ => rfl⟩, by unfold Lf; decide +kernel, by kernel_rfl, by kernel_rfl, by kernel_rfl, by kernel_rfl, by kernel_rfl, by kernel_rfl, by kernel_rfl, by kernel_rfl, by kernel_rfl, by kernel_rfl, fun h => absurd h (by unfold Lf; decide +kernel), fun h => absurd h (by unfold Lf; decide +kernel), fun h => absurd h (by unfold Lf; decide +kernel), fun h => absurd h (by unfold Lf; decide +kernel), fun h => absurd h (by unfold Lf; decide +kernel), fun h => absurd h (by unfold Lf; decide +kernel), fun h => absurd h (by unfold Lf; decide +kernel), fun h => absurd h (by unfold Lf; decide +kernel), fun h => absurd h (by unfold Lf; decide +kernel), fun h => absurd h (by unfold Lf; decide +kernel), fun h => absurd h (by unfold Lf; decide +kernel), fun h => absurd h (by unfold Lf; decide +kernel), fun h => absurd h (by unfold Lf; decide +kernel), fun h => absurd h (by unfold Lf; decide +kernel), fun h => absurd h (by unfold Lf; decide +kernel), fun h => absurd h (by unfold Lf; decide +kernel), fun h => absurd h (by unfold Lf; decide +kernel), fun h => absurd h (by unfold Lf; decide +kernel)⟩⟩
      case done =>
        rintro listed a w' ⟨own, b8, b11, b13, b15, b18, b20, b22, b26, h⟩ hall
        have L : ∀ i, i < 28 → Lf listed i := fun i hi => by
          have := hall i hi
          have hs : i < listed.size := by rw [h.sz]; exact hi
          unfold Lf
          simp only [Array.getD, hs, dite_true] at this ⊢
          exact this
        have r8 := (evt _ _).symm.trans (h.o27 (L 27 (by omega)))
        have hdf := h.df
        have HH := hideIt h
        have HLL := hideIt L
        clear h L hall
        go_wp2
        refine bodyPost_ret (v := .pointer (some ⟨b26, 0, none⟩)) (by simp [results, Tryd.results6, r8]) hdf ?_
        have k1 : Keeps [w.heap.size + 1 + 1] wr W4 := by rw [hW4]; exact ((Keeps.refl _ _).setCell (by simp) _).alloc _
        have s1 : W4.heap.size = w.heap.size + 4 := by rw [hW4]; simp [World.setCell]; have := HB.out.2.2.2; omega
        have k2 : Blk W4 (w.heap.size + 1 + 1) (ints ((List.replicate n (-1)).set id 0)) 3 := by
          have := (QB2.out.set id (.int .i64 0))
          rw [ints_set] at this
          rw [hW4]
          exact ((Keeps.refl [] _).alloc _).blk this (by simp)
        have k3 : Blk W4 wr.heap.size (ints ((List.replicate n 0).set id input)) 3 := by
          have := Blk.new (wr.setCell ⟨w.heap.size + 1 + 1, id, none⟩ (.int .i64 0)) ((ints (List.replicate n 0)).setIfInBounds id (.int .i64 input)) 3
          rw [ints_set] at this
          rw [hW4, ints_set]
          simpa [World.setCell] using this
        have kw : Keeps [w.heap.size + 1, w.heap.size + 1 + 1] w W4 := ((Q3.out.mono (by simp)).trans HB.out.2.2.1).trans (k1.mono (by simp))
        have kw0 : Keeps [] w W4 := ⟨kw.os, kw.tape, kw.output, kw.size, fun x hx _ => kw.block x hx (by simp; omega)⟩
        exact ⟨_, b11, b13, b15, b18, rfl, fresh_of h0 HH.out HLL.out (k1.blk QB0.out (by simp; omega)) (k1.blk QB1.out (by simp)) k2 k3 kw0 s1 HB.out.2.2.2⟩
      case step =>
        rintro listed a w' i ⟨own, b8, b11, b13, b15, b18, b20, b22, b26, h⟩ hi
        obtain ⟨hf, o, ho, hdep⟩ := mem_ready.1 hi
        rcases ni_pick h hf with rfl | rfl | rfl | rfl | rfl | rfl | rfl | rfl | rfl | rfl | rfl | rfl
        · have e65 := (evt _ _).symm.trans h.e65
          have HH := hideIt (h.step8 hf)
          clear h hdep hi hf ho
          refine wpOp_step rfl (fun K hK => ?_)
          go_simp
          exact hK _ _ ⟨updo own w'.heap.size 8, w'.heap.size, b11, b13, b15, b18, b20, b22, b26, HH.out⟩
        · have e68 := (evt _ _).symm.trans h.e68
          have HH := hideIt (h.step11 hf)
          clear h hdep hi hf ho
          refine wpOp_step rfl (fun K hK => ?_)
          go_simp
          exact hK _ _ ⟨updo own w'.heap.size 11, b8, w'.heap.size, b13, b15, b18, b20, b22, b26, HH.out⟩
        · have e70 := (evt _ _).symm.trans h.e70
          have HH := hideIt (h.step13 hf)
          clear h hdep hi hf ho
          refine wpOp_step rfl (fun K hK => ?_)
          go_simp
          exact hK _ _ ⟨updo own w'.heap.size 13, b8, b11, w'.heap.size, b15, b18, b20, b22, b26, HH.out⟩
        · have e72 := (evt _ _).symm.trans h.e72
          have HH := hideIt (h.step15 hf)
          clear h hdep hi hf ho
          refine wpOp_step rfl (fun K hK => ?_)
          go_simp
          exact hK _ _ ⟨updo own w'.heap.size 15, b8, b11, b13, w'.heap.size, b18, b20, b22, b26, HH.out⟩
        · have e75 := (evt _ _).symm.trans h.e75
          have HH := hideIt (h.step18 hf)
          clear h hdep hi hf ho
          refine wpOp_step rfl (fun K hK => ?_)
          go_simp
          exact hK _ _ ⟨updo own w'.heap.size 18, b8, b11, b13, b15, w'.heap.size, b20, b22, b26, HH.out⟩
        · injection ho with ho
          subst ho
          have l11 : Lf listed 11 := hdep ⟨11, .data⟩ (by simp) rfl
          have q11 := h.o11 l11
          have r11 := (evt _ _).symm.trans q11.1
          have l13 : Lf listed 13 := hdep ⟨13, .data⟩ (by simp) rfl
          have q13 := h.o13 l13
          have r13 := (evt _ _).symm.trans q13.1
          have l15 : Lf listed 15 := hdep ⟨15, .data⟩ (by simp) rfl
          have q15 := h.o15 l15
          have r15 := (evt _ _).symm.trans q15.1
          have l18 : Lf listed 18 := hdep ⟨18, .data⟩ (by simp) rfl
          have q18 := h.o18 l18
          have r18 := (evt _ _).symm.trans q18.1
          have e67 := (evt _ _).symm.trans h.e67
          have HH := hideIt (h.step19 hf l11 l13 l15 l18)
          clear h hdep hi hf q11 q13 q15 q18
          refine wpOp_step rfl (fun K hK => ?_)
          go_simp
          exact hK _ _ ⟨own, b8, b11, b13, b15, b18, b20, b22, b26, HH.out⟩
        · injection ho with ho
          subst ho
          have l19 : Lf listed 19 := hdep ⟨19, .data⟩ (by simp) rfl
          have q19 := h.o19 l19
          have r19 := (evt _ _).symm.trans q19
          have HH := hideIt (h.step20 hf l19)
          clear h hdep hi hf q19
          refine wpOp_step rfl (fun K hK => ?_)
          go_simp
          exact hK _ _ ⟨updo own w'.heap.size 20, b8, b11, b13, b15, b18, w'.heap.size, b22, b26, HH.out⟩
        · have e79 := (evt _ _).symm.trans h.e79
          have HH := hideIt (h.step22 hf)
          clear h hdep hi hf ho
          refine wpOp_step rfl (fun K hK => ?_)
          go_simp
          exact hK _ _ ⟨updo own w'.heap.size 22, b8, b11, b13, b15, b18, b20, w'.heap.size, b26, HH.out⟩
        · injection ho with ho
          subst ho
          have l8 : Lf listed 8 := hdep ⟨8, .data⟩ (by simp) rfl
          have q8 := h.o8 l8
          have r8 := (evt _ _).symm.trans q8.1
          have l20 : Lf listed 20 := hdep ⟨20, .data⟩ (by simp) rfl
          have q20 := h.o20 l20
          have r20 := (evt _ _).symm.trans q20.1
          have l22 : Lf listed 22 := hdep ⟨22, .data⟩ (by simp) rfl
          have q22 := h.o22 l22
          have r22 := (evt _ _).symm.trans q22.1
          have e58 := (evt _ _).symm.trans h.e58
          have e59 := (evt _ _).symm.trans h.e59
          have HH := hideIt (h.step23 hf l8 l20 l22)
          clear h hdep hi hf q8 q20 q22
          refine wpOp_step rfl (fun K hK => ?_)
          go_simp
          exact hK _ _ ⟨own, b8, b11, b13, b15, b18, b20, b22, b26, HH.out⟩
        · injection ho with ho
          subst ho
          have l23 : Lf listed 23 := hdep ⟨23, .data⟩ (by simp) rfl
          have q23 := h.o23 l23
          have r23 := (evt _ _).symm.trans q23
          unfold vpC at r23
          have e82 := (evt _ _).symm.trans h.e82
          have HH := hideIt (h.step25 hf l23)
          clear h hdep hi hf q23
          refine wpOp_step rfl (fun K hK => ?_)
          go_simp
          exact hK _ _ ⟨own, b8, b11, b13, b15, b18, b20, b22, b26, HH.out⟩
        · injection ho with ho
          subst ho
          have l25 : Lf listed 25 := hdep ⟨25, .data⟩ (by simp) rfl
          have q25 := h.o25 l25
          have r25 := (evt _ _).symm.trans q25
          have HH := hideIt (h.step26 hf l25)
          clear h hdep hi hf q25
          refine wpOp_step rfl (fun K hK => ?_)
          go_simp
          exact hK _ _ ⟨updo own w'.heap.size 26, b8, b11, b13, b15, b18, b20, b22, w'.heap.size, HH.out⟩
        · injection ho with ho
          subst ho
          have l26 : Lf listed 26 := hdep ⟨26, .data⟩ (by simp) rfl
          have q26 := h.o26 l26
          have r26 := (evt _ _).symm.trans q26.1
          have HH := hideIt (h.step27 hf l26)
          clear h hdep hi hf q26
          refine wpOp_step rfl (fun K hK => ?_)
          go_simp
          exact hK _ _ ⟨own, b8, b11, b13, b15, b18, b20, b22, b26, HH.out⟩
end Go.Proofs.Qxb6613198aDoor
