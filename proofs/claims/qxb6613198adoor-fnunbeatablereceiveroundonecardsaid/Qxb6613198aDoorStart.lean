import Derived.Test.Qxb6613198aDoorGath2
import Derived.Test.Qxb6613198aDoorRound
namespace Go.Proofs.Qxb6613198aDoor
open Go.ChangeShapes Go.WideShapes Go.ChangeAt Go.RowKit
open Plain
set_option linter.unusedVariables false

/-- apply, and what lies in the blocks that are to be avoided stays. -/
def Stays (w w' : World) (k : Blks) : Prop := ∀ b c t, b ∈ k.avoid → b ≠ k.bp → Blk w b c t → Blk w' b c t
def Applies2 (w : World) (k : Blks) (B id n width m : Nat) (last : Int) (ended : Bool) (L I S SH : List Int) (dec' : Bool) (val' rnd' : Int) : Prop :=
  Calls Tryd.prog 16 #[.pointer (some ⟨k.bp, 0, none⟩), .int .i64 m] w fun e w' => e = .returned (.tuple #[]) ∧ ∃ cr', St w' k id n width last ended dec' val' rnd' cr' L I S SH ∧ Below B w w' ∧ Stays w w' k

theorem applies_zero2 (w : World) (k : Blks) (B id n width m : Nat) (last : Int) (ended : Bool) (val rnd : Int) (cr : Value) (L I S SH : List Int) (h : St w k id n width last ended false val rnd cr L I S SH) (ha : k.apart B) (hB : B ≤ w.heap.size) (hn : n ≤ 64) (hz : holdsB L I n = true) :
    Applies2 w k B id n width m last ended L I S SH true 0 m := by
  refine (apply_zero w k id n width m last ended val rnd cr L I S SH h hn hz).mono ?_
  rintro e w' ⟨rfl, hP, hK⟩
  have p := ha.pairs
  have g : ∀ x, x ≠ k.bp → x ∉ [k.bp] := fun x hx => by simpa using hx
  refine ⟨rfl, cr, ⟨hP, hK.blk h.v (g _ (Ne.symm p.pv)), hK.blk h.l (g _ (Ne.symm p.pl)), h.ll, hK.blk h.i (g _ (Ne.symm p.pi)), h.li, hK.blk h.sh (g _ (Ne.symm p.psh)), h.lsh, hK.blk h.h (g _ (Ne.symm p.ph)), hK.blk h.s (g _ (Ne.symm p.ps)), h.ls, ?_, fun x hx => Nat.lt_of_lt_of_le (h.av x hx) hK.size⟩, hK.below hB (by have := ha.above; simp; omega), fun b c t _ hb hB' => hK.blk hB' (g _ hb)⟩
  rcases h.c with rfl | ⟨bc, C, rfl, hb, hl, h1, h2⟩
  · exact Or.inl rfl
  · exact Or.inr ⟨bc, C, rfl, hK.blk hb (g _ (fun e => h1 (by rw [e]; simp [Blks.avoid]))), hl, h1, h2⟩

theorem applies_see2 (w : World) (k : Blks) (B id n width m H M : Nat) (last : Int) (ended : Bool) (val rnd : Int) (cr : Value) (L I S SH : List Int) (h : St w k id n width last ended false val rnd cr L I S SH) (ha : k.apart B) (hB : B ≤ w.heap.size) (h1 : 1 ≤ n) (hn : n ≤ 64) (hid : id < n)
    (hz : holdsB L I n = false) (hlow : ∀ h, h < n → h ≠ id → L.getD h 0 ≤ 0) (hM : (L.getD id 0 ≤ 0 ∧ M = 0) ∨ (L.getD id 0 = 1 ∧ 1 < width ∧ S.getD (id * width + 1) 0 = (H : Int) ∧ H < 2 ^ 64 ∧ M = missing n H)) (hm : m ≤ 70000) (hT : TabAt 0 Lib.deBruijn64tab w)
    (dec' : Bool) (val' rnd' : Int) (hd : (anySees L (byOf n M) n m = true ∧ dec' = true ∧ val' = 1 ∧ rnd' = m) ∨ (anySees L (byOf n M) n m = false ∧ dec' = false ∧ val' = val ∧ rnd' = rnd)) :
    Applies2 w k B id n width m last ended L I S SH dec' val' rnd' := by
  refine (apply_see w k id n width m H M last ended val rnd cr L I S SH B h ha h1 hn hid hz hlow hM hm hT dec' val' rnd' hd).mono ?_
  rintro e w' ⟨rfl, bc, kB, kV, k1, k2, hP, hK⟩
  have p := ha.pairs
  have g : ∀ x, x ∈ k.avoid → x ≠ k.bp → x ≠ k.bv → x ∉ [k.bp, k.bv, bc] := fun x hx e1 e2 => by
    have := ne_of_avoid hx k1
    simp [e1, e2, this]
  refine ⟨rfl, _, ⟨hP, kV, hK.blk h.l (g _ (by simp [Blks.avoid]) (Ne.symm p.pl) p.lv), h.ll, hK.blk h.i (g _ (by simp [Blks.avoid]) (Ne.symm p.pi) p.iv), h.li, hK.blk h.sh (g _ (by simp [Blks.avoid]) (Ne.symm p.psh) p.shv), h.lsh, hK.blk h.h (g _ (by simp [Blks.avoid]) (Ne.symm p.ph) p.hv), hK.blk h.s (g _ (by simp [Blks.avoid]) (Ne.symm p.ps) p.sv), h.ls,
    Or.inr ⟨bc, byOf n M, rfl, kB, byOf_len n M, k1, k2⟩, fun x hx => Nat.lt_of_lt_of_le (h.av x hx) hK.size⟩, hK.below hB ?_, fun b c t hb hne hB' => hK.blk hB' (g _ hb hne (fun e => ha.ne (e ▸ hb)))⟩
  have a := ha.above
  have b := ha.ge k1
  intro x hx
  simp only [List.mem_cons, List.not_mem_nil, or_false] at hx
  omega

theorem low_start (n id : Nat) (hid : id < n) : Low (Ls n id 0) n := by
  refine ⟨Ls_len n id 0, fun h hh => ?_⟩
  by_cases e : h = id
  · subst e; rw [Ls_id n h 0 hid]; decide
  · rw [Ls_ne n id h 0 hh e]; decide

/-- How a new process's blocks lie. -/
theorem Fresh.gap {w w1 : World} {id n lr : Nat} {input : Int} {k : Blks} {rl rf ri re : Nat} (h : Fresh w w1 id n lr input k rl rf ri re) : GAp k w.heap.size rl rf ri re := by
  have nd := h.ap.nd
  have hex := h.ex
  have low := h.ap.low
  simp only [Blks.avoid, hex, List.nodup_cons, List.mem_cons, not_or, List.mem_range] at nd
  obtain ⟨⟨a1, a2, a3, a4, a5, a6, a7, a8, a9, a10, a11, a12⟩, ⟨b1, b2, b3, b4, b5, b6, b7, b8, b9, b10, b11⟩, ⟨c1, c2, c3, c4, c5, c6, c7, c8, c9, c10⟩, ⟨d1, d2, d3, d4, d5, d6, d7, d8, d9⟩, ⟨e1, e2, e3, e4, e5, e6, e7, e8⟩, ⟨f1, f2, f3, f4, f5, f6, f7⟩, ⟨g1, g2, g3, g4, g5, g6⟩, ⟨h1, h2, h3, h4, h5⟩, ⟨i1, i2, i3, i4⟩, ⟨j1, j2, j3⟩, ⟨k1, k2⟩, l1, _⟩ := nd
  refine ⟨h.ap, by simp [hex], ⟨?_, ?_⟩, ?_⟩
  · simp only [List.nodup_cons, List.mem_cons, not_or, List.not_mem_nil, not_false_eq_true, and_true, List.nodup_nil]
    exact ⟨⟨c6, c7, c8, c9⟩, ⟨i1, i2, i3⟩, ⟨j1, j2⟩, k1⟩
  · intro x hx
    simp only [List.mem_cons, List.not_mem_nil, or_false] at hx
    rcases hx with rfl | rfl | rfl | rfl | rfl <;> omega
  · intro x hx
    simp only [List.mem_cons, List.not_mem_nil, or_false] at hx
    rcases hx with rfl | rfl | rfl | rfl | rfl
    · exact ⟨Ne.symm b1, Ne.symm a2, c1, c4, c5, c2, c3⟩
    · exact ⟨Ne.symm b7, Ne.symm a8, Ne.symm d5, Ne.symm g2, Ne.symm h1, Ne.symm e4, Ne.symm f3⟩
    · exact ⟨Ne.symm b8, Ne.symm a9, Ne.symm d6, Ne.symm g3, Ne.symm h2, Ne.symm e5, Ne.symm f4⟩
    · exact ⟨Ne.symm b9, Ne.symm a10, Ne.symm d7, Ne.symm g4, Ne.symm h3, Ne.symm e6, Ne.symm f5⟩
    · exact ⟨Ne.symm b10, Ne.symm a11, Ne.symm d8, Ne.symm g5, Ne.symm h4, Ne.symm e7, Ne.symm f6⟩

/-- The start, with what is received. -/
theorem start_gs (w w1 : World) (id n lr : Nat) (input : Int) (k : Blks) (rl rf ri re : Nat) (now : Bool) (hf : Fresh w w1 id n lr input k rl rf ri re) (h1 : 1 ≤ n) (hn : n ≤ 64) (hid : id < n) (hlr : 1 ≤ lr) (hinp : input = 0 ∨ input = 1) (hnow : (now = true ∧ (input = 0 ∨ n = 1)) ∨ (now = false ∧ input = 1 ∧ 2 ≤ n)) (hT : TabAt 0 Lib.deBruijn64tab w) :
    Calls Tryd.prog 7 #[.pointer (some ⟨k.bp, 0, none⟩), .int .i64 0] w1 fun e w' => e = .returned (.tuple #[]) ∧ ∃ cr, GS w' k rl rf ri re id n (lr + 1) lr false (decOf now 0) (valOf now input 0) (rndOf now 0) cr (List.replicate (n * (lr + 1)) 0) ⟨Ls n id 0, (List.replicate n 0).set id input, List.replicate n 0, 0⟩ ∧ Below w.heap.size w1 w' := by
  have hB : w.heap.size ≤ w1.heap.size := hf.bel.size
  have st : St w1 k id n (lr + 1) lr false false 0 0 (.slice none 0 0) (Ls n id 0) ((List.replicate n 0).set id input) (List.replicate (n * (lr + 1)) 0) (List.replicate n 0) := hf.st
  have ga := hf.gap
  refine zzapply_any w1 k 0 (fun _ w' => ∃ cr, GS w' k rl rf ri re id n (lr + 1) lr false (decOf now 0) (valOf now input 0) (rndOf now 0) cr (List.replicate (n * (lr + 1)) 0) ⟨Ls n id 0, (List.replicate n 0).set id input, List.replicate n 0, 0⟩ ∧ Below w.heap.size w1 w') ?_
  have hT1 := tab_below hT hf.bel hf.ap.z
  have key : Applies2 w1 k w.heap.size id n (lr + 1) 0 lr false (Ls n id 0) ((List.replicate n 0).set id input) (List.replicate (n * (lr + 1)) 0) (List.replicate n 0) (decOf now 0) (valOf now input 0) (rndOf now 0) := by
    rcases hinp with rfl | rfl
    · have e : now = true := by rcases hnow with ⟨h, _⟩ | ⟨_, h, _⟩; exact h; cases h
      subst e
      exact applies_zero2 w1 k w.heap.size id n (lr + 1) 0 lr false 0 0 _ _ _ _ _ st hf.ap hB hn (holds_yes n id 0 (by decide) hid)
    · rcases hnow with ⟨rfl, h | rfl⟩ | ⟨rfl, _, h⟩
      · cases h
      · obtain rfl : id = 0 := by omega
        exact applies_see2 w1 k w.heap.size 0 1 (lr + 1) 0 0 0 lr false 0 0 _ _ _ _ _ st hf.ap hB h1 hn hid (holds_no 1 0 _ 1 (by decide) hid) (fun j hj hne => by omega) (Or.inl ⟨by rw [Ls_id 1 0 0 hid]; decide, rfl⟩) (by omega) hT1 _ _ _ (Or.inl ⟨sees_alone 0, rfl, rfl, rfl⟩)
      · exact applies_see2 w1 k w.heap.size id n (lr + 1) 0 0 0 lr false 0 0 _ _ _ _ _ st hf.ap hB h1 hn hid (holds_no n id _ 1 (by decide) hid) (fun j hj hne => by rw [Ls_ne n id j _ hj hne]; decide) (Or.inl ⟨by rw [Ls_id n id 0 hid]; decide, rfl⟩) (by omega) hT1 _ _ _ (Or.inr ⟨sees_not n id h hid, rfl, rfl, rfl⟩)
  refine key.mono ?_
  rintro e w' ⟨rfl, cr, st', hb, hs⟩
  have hne : ∀ x ∈ [k.br, rl, rf, ri, re], x ∈ k.avoid ∧ x ≠ k.bp := by
    intro x hx
    refine ⟨?_, (ga.ne x hx).1⟩
    have := ga.ex
    simp only [List.mem_cons, List.not_mem_nil, or_false] at hx
    simp only [Blks.avoid, List.mem_cons]
    rcases hx with rfl | rfl | rfl | rfl | rfl <;> simp [this]
  have q : ∀ x c t, x ∈ [k.br, rl, rf, ri, re] → Blk w1 x c t → Blk w' x c t := fun x c t hx => hs x c t (hne x hx).1 (hne x hx).2
  exact ⟨rfl, cr, ⟨st', ⟨_, _, _, q _ _ _ (by simp) hf.r, q _ _ _ (by simp) hf.l, by simp, q _ _ _ (by simp) hf.f, by simp, q _ _ _ (by simp) hf.i, by simp, q _ _ _ (by simp) hf.e⟩, low_start n id hid⟩, hb⟩
end Go.Proofs.Qxb6613198aDoor
