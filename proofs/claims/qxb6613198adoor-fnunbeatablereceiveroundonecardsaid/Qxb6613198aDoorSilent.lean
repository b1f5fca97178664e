import Derived.Test.Qxb6613198aDoorNew
import Derived.Test.Qxb6613198aDoorSilentA
namespace Go.Proofs.Qxb6613198aDoor
open Go.ChangeShapes Go.WideShapes Go.ChangeAt Go.RowKit
open Plain
set_option linter.unusedVariables false

theorem Crs.same {w w' : World} (hh : w'.heap = w.heap) {bv n : Nat} {cr : Value} {av : List Nat} (h : Crs w bv n cr av) : Crs w' bv n cr av := by
  rcases h with h | ⟨bc, C, h1, h2, h3⟩
  · exact Or.inl h
  · exact Or.inr ⟨bc, C, h1, by unfold Blk at *; rw [hh]; exact h2, h3⟩
theorem St.same {w w' : World} (hh : w'.heap = w.heap) {k : Blks} {id n width : Nat} {last : Int} {ended dec : Bool} {val rnd : Int} {cr : Value} {L I S SH : List Int} (h : St w k id n width last ended dec val rnd cr L I S SH) : St w' k id n width last ended dec val rnd cr L I S SH := by
  have g : ∀ {b : Nat} {c : Array Value} {t : TypeId}, Blk w b c t → Blk w' b c t := fun hb => by unfold Blk at *; rw [hh]; exact hb
  exact ⟨g h.p, g h.v, g h.l, h.ll, g h.i, h.li, g h.sh, h.lsh, g h.h, g h.s, h.ls, h.c.same hh, fun x hx => by rw [hh]; exact h.av x hx⟩

theorem or_zero (x : Nat) (h : x < 2 ^ 64) : bits BinOp.or IntKind.u64 0 (x : Int) = (x : Int) := by
  have := bits_or_u64_nat 0 x (by omega) (by omega)
  rw [Nat.zero_or] at this
  exact this
theorem bit_lt {id : Nat} (h : id < 64) : 2 ^ id < 2 ^ 64 := Nat.pow_lt_pow_right (by decide) h
theorem wrap_bit {id : Nat} (h : id < 64) : IntKind.u64.wrap (2 ^ id) = ((2 ^ id : Nat) : Int) := by
  have := bit_lt h
  rw [IntKind.wrap_u64, show (2 : Int) ^ id = ((2 ^ id : Nat) : Int) from by rw [Int.natCast_pow]; rfl]
  generalize 2 ^ id = x at this ⊢
  omega
theorem orBit_zero {id : Nat} (h : id < 64) : orBit 0 id = ((2 ^ id : Nat) : Int) := by
  unfold orBit
  rw [wrap_bit h]
  exact or_zero _ (bit_lt h)

/-- gather with no message, told by the state. -/
theorem gather_nil_st (w : World) (k : Blks) (B id n width r : Nat) (last : Int) (ended dec : Bool) (val rnd : Int) (cr : Value) (L I S SH : List Int) (h : St w k id n width last ended dec val rnd cr L I S SH) (ha : k.apart B) (hB : B ≤ w.heap.size) (hn : n ≤ 64) :
    Calls Tryd.prog 18 #[.pointer (some ⟨k.bp, 0, none⟩), .int .i64 r, .slice none 0 0] w.drew fun e w' => e = .returned (.int .u64 0) ∧ St w' k id n width last ended dec val rnd cr L I S (List.replicate n MAXI) ∧ Below B w w' := by
  have h' : St w.drew k id n width last ended dec val rnd cr L I S SH := St.same (w := w) (w' := w.drew) rfl h
  have p := ha.pairs
  refine (gather_nil w.drew k.bp k.bsh n r _ SH h'.p rfl h'.sh h'.lsh hn p.psh).mono ?_
  rintro e w' ⟨rfl, hS, hK⟩
  have g : ∀ x, x ≠ k.bsh → x ∉ [k.bsh] := fun x hx => by simpa using hx
  refine ⟨rfl, ⟨hK.blk h'.p (g _ p.psh), hK.blk h'.v (g _ (Ne.symm p.shv)), hK.blk h'.l (g _ (Ne.symm p.shl)), h.ll, hK.blk h'.i (g _ (Ne.symm p.shi)), h.li, hS, by simp, hK.blk h'.h (g _ (Ne.symm p.shh)), hK.blk h'.s (g _ (Ne.symm p.shs)), h.ls, ?_, fun x hx => Nat.lt_of_lt_of_le (h'.av x hx) hK.size⟩, ?_⟩
  · rcases h'.c with rfl | ⟨bc, C, rfl, hb, hl, h1, h2⟩
    · exact Or.inl rfl
    · exact Or.inr ⟨bc, C, rfl, hK.blk hb (g _ (fun e => h1 (by rw [e]; simp [Blks.avoid]))), hl, h1, h2⟩
  · have hb := hK.below (B := B) hB (by have := ha.above; simp; omega)
    exact ⟨hb.os, hb.tape, hb.output, hb.size, hb.block⟩

/-! The lists. -/
def Ls (n id : Nat) (t : Int) : List Int := (List.replicate n (-1)).set id t
theorem Ls_len (n id : Nat) (t : Int) : (Ls n id t).length = n := by simp [Ls]
theorem Ls_set (n id : Nat) (t s : Int) : (Ls n id t).set id s = Ls n id s := by simp [Ls]
theorem Ls_id (n id : Nat) (t : Int) (h : id < n) : (Ls n id t).getD id 0 = t := by simp [Ls, h]
theorem Ls_ne (n id j : Nat) (t : Int) (h : j < n) (hne : j ≠ id) : (Ls n id t).getD j 0 = -1 := by
  simp [Ls, Ne.symm hne, h]
theorem Is_id (n id : Nat) (x : Int) (h : id < n) : ((List.replicate n 0).set id x).getD id 0 = x := by simp [h]

theorem holds_no (n id : Nat) (t x : Int) (hx : x ≠ 0) (hid : id < n) : holdsB (Ls n id t) ((List.replicate n 0).set id x) n = false := by
  rw [Bool.eq_false_iff]
  intro h
  simp only [holdsB, List.any_eq_true, List.mem_range, Bool.and_eq_true, decide_eq_true_eq, beq_iff_eq] at h
  obtain ⟨j, hj, h1, h2⟩ := h
  by_cases e : j = id
  · subst e
    rw [Is_id n j x hid] at h2
    exact hx h2
  · rw [Ls_ne n id j t hj e] at h1
    omega
theorem holds_yes (n id : Nat) (t : Int) (ht : 0 ≤ t) (hid : id < n) : holdsB (Ls n id t) ((List.replicate n 0).set id 0) n = true :=
  holdsB_of hid (by rw [Ls_id n id t hid]; exact ht) (Is_id n id 0 hid)

/-- At time 0 a process that is alone sees all. -/
theorem sees_alone (M : Nat) : anySees (Ls 1 0 0) (byOf 1 M) 1 0 = true := by
  refine anySees_yes (l := 0) (Nat.le_refl _) ?_
  simp only [seesB, List.all_eq_true, List.mem_range]
  intro h hh
  obtain rfl : h = 0 := by omega
  rw [Ls_id 1 0 0 (by omega)]
  simp
/-- At time 0 one of several does not. -/
theorem sees_not (n id : Nat) (h2 : 2 ≤ n) (hid : id < n) : anySees (Ls n id 0) (byOf n 0) n 0 = false := by
  refine anySees_no fun l hl => ?_
  obtain rfl : l = 0 := by omega
  obtain ⟨j, hj, hne⟩ : ∃ j, j < n ∧ j ≠ id := by
    by_cases e : id = 0
    · exact ⟨1, by omega, by omega⟩
    · exact ⟨0, by omega, by omega⟩
  exact seesB_of hj (by rw [Ls_ne n id j 0 hj hne]; decide) (by rw [byOf_get n 0 j hj]; simp [MAXI])
/-- At time 1, having heard from none, it sees that all the others have crashed. -/
theorem sees_one (n id : Nat) (hn : n ≤ 64) (hid : id < n) : anySees (Ls n id 1) (byOf n (missing n (2 ^ id))) n 1 = true := by
  refine anySees_yes (l := 1) (Nat.le_refl _) ?_
  simp only [seesB, List.all_eq_true, List.mem_range]
  intro j hj
  by_cases e : j = id
  · subst e
    rw [Ls_id n j 1 hid]
    simp
  · rw [byOf_get n _ j hj, missing_bit n _ j hn (bit_lt (by omega)), Nat.testBit_two_pow]
    simp [hj, Ne.symm e]
end Go.Proofs.Qxb6613198aDoor
