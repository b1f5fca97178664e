import Derived.Test.Qxb6613198aDoorGath3
import Derived.Test.Qxb6613198aDoorStart
import Derived.Test.Qxb6613198aDoorZloop
namespace Go.Proofs.Qxb6613198aDoor
open Go.ChangeShapes Go.WideShapes Go.ChangeAt Go.RowKit
open Plain
set_option linter.unusedVariables false

/-! ### The plain law of round 1: no Go here -/
structure HOk (n : Nat) (H : Int) (h : Nat) : Prop where
  eq : H = (h : Int)
  lt : h < 2 ^ 64
  bit : ∀ j, h.testBit j = true → j < n
theorem HOk.zero (n : Nat) : HOk n 0 0 := ⟨rfl, by decide, fun j hj => by simp at hj⟩
theorem orBit_nat {h id : Nat} (hh : h < 2 ^ 64) (hid : id < 64) : orBit (h : Int) id = ((h ||| 2 ^ id : Nat) : Int) := by
  unfold orBit
  rw [wrap_bit hid]
  have := bit_lt hid
  exact bits_or_u64_nat h (2 ^ id) (by omega) (by omega)
theorem HOk.or {n : Nat} {H : Int} {h : Nat} (hn : n ≤ 64) (hk : HOk n H h) {f : Nat} (hf : f < n) : HOk n (orBit H f) (h ||| 2 ^ f) := by
  refine ⟨by rw [hk.eq, orBit_nat hk.lt (by omega)], Nat.or_lt_two_pow hk.lt (bit_lt (by omega)), fun j hj => ?_⟩
  rw [Nat.testBit_or, Nat.testBit_two_pow] at hj
  rcases Bool.or_eq_true _ _ ▸ hj with h1 | h1
  · exact hk.bit j h1
  · have := of_decide_eq_true h1
    omega

structure SOk (n id : Nat) (s : PS) : Prop where
  low : Low s.L n
  own : 0 ≤ s.L.getD id 0
  li : s.I.length = n
  ls : s.S.length = n
  h : ∃ h, HOk n s.H h
theorem SOk.step {n id : Nat} {s : PS} (hn : n ≤ 64) (hid : id < n) (k : SOk n id s) (f : Int) (l : List UInt8) : SOk n id (stepM n s f l) := by
  have lw := k.low.step f l
  rcases hme : msgEs n f l with _ | es
  · rw [stepM_none hme]; exact k
  rcases hot : okT es s.L n with _ | _
  · rw [stepM_no hme hot]; exact k
  rw [stepM_yes hme hot] at lw ⊢
  have mo := msgEs_ok hme
  obtain ⟨h, hh⟩ := k.h
  refine ⟨lw, ?_, by simp [takeI_len, k.li], by simp [minS_len, k.ls], h ||| 2 ^ f.toNat, hh.or hn (by omega)⟩
  show 0 ≤ (takeL es s.L).getD id 0
  rw [takeL_get _ _ _ (by rw [k.low.1]; exact hid)]
  have := k.own
  omega
theorem SOk.fold {n id : Nat} (hn : n ≤ 64) (hid : id < n) : ∀ (ms : List Msg) (s : PS), SOk n id s → SOk n id (foldM n s ms)
  | [], s, k => k
  | m :: ms, s, k => SOk.fold hn hid ms _ (k.step hn hid m.f m.l)

theorem set_nn (L : List Int) (n id h : Nat) (hl : L.length = n) (h0 : 0 ≤ L.getD id 0) (hid : id < n) : decide (0 ≤ (L.set id 1).getD h 0) = decide (0 ≤ L.getD h 0) := by
  by_cases e : id = h
  · subst e
    rw [getD_set_eq _ _ _ (by omega), decide_eq_true h0]
    rfl
  · rw [getD_set_ne _ _ _ _ e]
theorem holds_set (L I : List Int) (n id : Nat) (hl : L.length = n) (h0 : 0 ≤ L.getD id 0) (hid : id < n) : holdsB (L.set id 1) I n = holdsB L I n := by
  unfold holdsB
  congr 1
  funext h
  rw [set_nn L n id h hl h0 hid]

/-- Nobody else was heard. -/
def alone (h id : Nat) : Bool := decide (h &&& (18446744073709551615 - 2 ^ id) = 0)
theorem alone_bit {h id n : Nat} (hid : id < 64) (hb : ∀ j, h.testBit j = true → j < n) (hn : n ≤ 64) : alone h id = true ↔ ∀ j, j < n → j ≠ id → h.testBit j = false := by
  have hp := bit_lt hid
  have e : ∀ j, (h &&& (18446744073709551615 - 2 ^ id)).testBit j = (h.testBit j && (decide (j < 64) && !decide (id = j))) := by
    intro j
    rw [Nat.testBit_and, show 18446744073709551615 - 2 ^ id = 2 ^ 64 - (2 ^ id + 1) by omega, Nat.testBit_two_pow_sub_succ hp, Nat.testBit_two_pow]
  unfold alone
  rw [decide_eq_true_eq]
  constructor
  · intro h0 j hj hne
    have := e j
    rw [h0, Nat.zero_testBit] at this
    have d1 : decide (j < 64) = true := decide_eq_true (by omega)
    have d2 : decide (id = j) = false := decide_eq_false (Ne.symm hne)
    rw [d1, d2] at this
    simpa using this.symm
  · intro hh
    apply Nat.eq_of_testBit_eq
    intro j
    rw [e j, Nat.zero_testBit]
    cases hj : h.testBit j with
    | false => rfl
    | true =>
      have := hb j hj
      by_cases ej : id = j
      · simp [ej]
      · rw [hh j this (Ne.symm ej)] at hj; cases hj

theorem sees_law (L : List Int) (n id h : Nat) (hL : Low L n) (hid : id < n) (hn : n ≤ 64) (h0 : 0 ≤ L.getD id 0) (hh : h < 2 ^ 64) (hb : ∀ j, h.testBit j = true → j < n) :
    anySees (L.set id 1) (byOf n (missing n (h ||| 2 ^ id))) n 1 = (allB L n || alone h id) := by
  have hor : h ||| 2 ^ id < 2 ^ 64 := Nat.or_lt_two_pow hh (bit_lt (by omega))
  have e : anySees (L.set id 1) (byOf n (missing n (h ||| 2 ^ id))) n 1 = (seesB (L.set id 1) (byOf n (missing n (h ||| 2 ^ id))) 0 n || seesB (L.set id 1) (byOf n (missing n (h ||| 2 ^ id))) 1 n) := by
    simp [anySees, List.range_succ]
  rw [e]
  congr 1
  · rw [Bool.eq_iff_iff]
    simp only [seesB, allB, List.all_eq_true, List.mem_range]
    refine forall_congr' fun j => forall_congr' fun hj => ?_
    have c : (0 : Int) < (byOf n (missing n (h ||| 2 ^ id))).getD j 0 := by
      rw [byOf_get n _ j hj]
      split
      · decide
      · simp [MAXI]
    have q := set_nn L n id j hL.1 h0 hid
    rw [decide_eq_true c, Bool.and_true, ← q]
    simp only [Bool.not_eq_true', decide_eq_false_iff_not, decide_eq_true_eq]
    omega
  · rw [Bool.eq_iff_iff, alone_bit (by omega) hb hn]
    simp only [seesB, List.all_eq_true, List.mem_range]
    constructor
    · intro H j hj hne
      have := H j hj
      rw [getD_set_ne _ _ _ _ (Ne.symm hne), byOf_get n _ j hj, missing_bit n _ j hn hor, decide_eq_true (show L.getD j 0 < 1 by have := hL.2 j hj; omega), decide_eq_true hj, Nat.testBit_or, Nat.testBit_two_pow, decide_eq_false (Ne.symm hne), Bool.or_false, Bool.true_and, Bool.true_and] at this
      cases hb' : h.testBit j with
      | false => rfl
      | true => rw [hb'] at this; simp [MAXI] at this
    · intro H j hj
      by_cases ej : id = j
      · subst ej
        rw [getD_set_eq _ _ _ (by rw [hL.1]; exact hid)]
        simp
      · rw [byOf_get n _ j hj, missing_bit n _ j hn hor, decide_eq_true hj, Nat.testBit_or, Nat.testBit_two_pow, decide_eq_false ej, H j hj (Ne.symm ej)]
        simp

theorem alone_bits {n : Nat} {H : Int} {h id : Nat} (hk : HOk n H h) (hid : id < 64) : (bits BinOp.andNot IntKind.u64 H (IntKind.u64.wrap (2 ^ id)) == 0) = alone h id := by
  have hp := bit_lt hid
  have hl := hk.lt
  rw [hk.eq, wrap_bit hid, u64_andNot_nat h (2 ^ id) (by omega) (by omega)]
  unfold alone
  rw [Bool.eq_iff_iff, beq_iff_eq, decide_eq_true_eq]
  omega
end Go.Proofs.Qxb6613198aDoor
