import Derived.Lib.TrailingZeros
/-! Plain arithmetic on sets of processes as bits of a number: no Go in sight. -/
namespace Go.Proofs.Qxb6613198aDoor.Plain

theorem low_spec (x : Nat) (h0 : x ≠ 0) (h : x < 2 ^ 64) :
    Lib.ctz 64 x < 64 ∧ x.testBit (Lib.ctz 64 x) = true ∧ (∀ i, (x &&& (x - 1)).testBit i = (x.testBit i && decide (i ≠ Lib.ctz 64 x))) ∧ x &&& (x - 1) < x := by
  obtain ⟨m, hm, hk⟩ := Lib.ctzFrom_spec 64 x (by omega) h
  have e : Lib.ctz 64 x = Lib.ctzFrom 64 x := by simp [Lib.ctz, h0]
  rw [e]
  generalize Lib.ctzFrom 64 x = j at *
  have hx : ∀ i, x.testBit i = (decide (j ≤ i) && (2 * m + 1).testBit (i - j)) := by
    intro i; rw [hm, Nat.mul_comm, Nat.testBit_mul_two_pow]
  have hp : 0 < 2 ^ j := Nat.two_pow_pos j
  have hx1 : x - 1 = 2 ^ j * (2 * m) + (2 ^ j - 1) := by
    rw [hm, Nat.mul_add, Nat.mul_one]; omega
  refine ⟨hk, ?_, ?_, ?_⟩
  · rw [hx]; simp [Nat.testBit_zero]
  · intro i
    rw [Nat.testBit_and, hx1, Nat.testBit_two_pow_mul_add _ (by omega), hx]
    by_cases c : i < j
    · have : ¬ j ≤ i := by omega
      simp [this]
    · rw [if_neg c]
      by_cases d : i = j
      · subst d; simp [Nat.testBit_zero]
      · obtain ⟨t, rfl⟩ : ∃ t, i = j + (t + 1) := ⟨i - j - 1, by omega⟩
        have e3 : j + (t + 1) - j = t + 1 := by omega
        rw [e3, Nat.testBit_succ, Nat.testBit_succ]
        have d1 : (2 * m + 1) / 2 = m := by omega
        have d2 : (2 * m) / 2 = m := by omega
        rw [d1, d2]
        simp
  · have := Nat.and_le_right (n := x) (m := x - 1)
    omega

def MAXI : Int := 9223372036854775807

/-- What 'crashedBy' answers, where M is the set of those that were missed in round 1. -/
def byOf (n M : Nat) : List Int := (List.range n).map fun j => if M.testBit j then 1 else MAXI
/-- The same, half done: M' is still to come. -/
def byPart (n M M' : Nat) : List Int := (List.range n).map fun j => if M.testBit j && !M'.testBit j then 1 else MAXI

theorem byOf_len (n M : Nat) : (byOf n M).length = n := by simp [byOf]
theorem byPart_len (n M M' : Nat) : (byPart n M M').length = n := by simp [byPart]
theorem byOf_get (n M j : Nat) (h : j < n) : (byOf n M).getD j 0 = if M.testBit j then 1 else MAXI := by
  simp [byOf, h]
theorem byPart_get (n M M' j : Nat) (h : j < n) : (byPart n M M').getD j 0 = if M.testBit j && !M'.testBit j then 1 else MAXI := by
  simp [byPart, h]
theorem byPart_start (n M : Nat) : byPart n M M = byOf n 0 := by
  simp [byPart, byOf]
theorem byPart_end (n M : Nat) : byPart n M 0 = byOf n M := by
  simp [byPart, byOf]
theorem byOf_zero (n : Nat) : byOf n 0 = List.replicate n MAXI := by
  apply List.ext_getElem
  · simp [byOf]
  · intro i h1 h2; simp [byOf]
theorem byPart_step (n M M' : Nat) (h0 : M' ≠ 0) (h : M' < 2 ^ 64) (hs : ∀ i, M'.testBit i = true → M.testBit i = true) :
    (byPart n M M').set (Lib.ctz 64 M') 1 = byPart n M (M' &&& (M' - 1)) := by
  obtain ⟨_, h2, h3, _⟩ := low_spec M' h0 h
  apply List.ext_getElem?
  intro i
  rw [List.getElem?_set]
  by_cases c : i < n
  · by_cases d : Lib.ctz 64 M' = i
    · rw [if_pos d, byPart_len, if_pos (by omega)]
      have e := hs i (by rw [← d]; exact h2)
      simp only [byPart, List.getElem?_map, List.getElem?_range c, Option.map_some, h3 i, e]
      simp [d]
    · rw [if_neg d]
      have d' : i ≠ Lib.ctz 64 M' := fun x => d x.symm
      simp only [byPart, List.getElem?_map, List.getElem?_range c, Option.map_some, h3 i]
      simp [d']
  · have l1 : (byPart n M M')[i]? = none := List.getElem?_eq_none (by rw [byPart_len]; omega)
    have l2 : (byPart n M (M' &&& (M' - 1)))[i]? = none := List.getElem?_eq_none (by rw [byPart_len]; omega)
    rw [l1, l2]
    by_cases d : Lib.ctz 64 M' = i
    · rw [if_pos d, byPart_len, if_neg (by omega)]
    · rw [if_neg d]

/-- Everyone of a group of n. -/
theorem evy_nat (n : Nat) (h1 : 1 ≤ n) (h2 : n ≤ 64) : 18446744073709551615 / 2 ^ (64 - n) = 2 ^ n - 1 := by
  have e : 2 ^ 64 = 2 ^ n * 2 ^ (64 - n) := by rw [← Nat.pow_add]; congr 1; omega
  have hp : 0 < 2 ^ (64 - n) := Nat.two_pow_pos _
  have h : (18446744073709551615 : Nat) = 2 ^ (64 - n) * (2 ^ n - 1) + (2 ^ (64 - n) - 1) := by
    rw [Nat.mul_sub, Nat.mul_one, Nat.mul_comm, ← e]
    have : 2 ^ (64 - n) ≤ 2 ^ 64 := Nat.pow_le_pow_right (by decide) (by omega)
    omega
  rw [h, Nat.mul_add_div hp, Nat.div_eq_of_lt (by omega), Nat.add_zero]

/-- Those of the group that H lacks. -/
def missing (n H : Nat) : Nat := (2 ^ n - 1) &&& (18446744073709551615 - H)
theorem missing_bit (n H j : Nat) (hn : n ≤ 64) (hH : H < 2 ^ 64) : (missing n H).testBit j = (decide (j < n) && !H.testBit j) := by
  unfold missing
  rw [Nat.testBit_and, Nat.testBit_two_pow_sub_one, show 18446744073709551615 - H = 2 ^ 64 - (H + 1) by omega, Nat.testBit_two_pow_sub_succ hH]
  by_cases c : j < n
  · have : j < 64 := by omega
    simp [c, this]
  · simp [c]
theorem missing_lt (n H : Nat) (hn : n ≤ 64) : missing n H < 2 ^ 64 := by
  unfold missing
  have h1 := Nat.and_le_left (n := 2 ^ n - 1) (m := 18446744073709551615 - H)
  have h2 : 2 ^ n ≤ 2 ^ 64 := Nat.pow_le_pow_right (by decide) hn
  have h3 := Nat.two_pow_pos n
  omega
end Go.Proofs.Qxb6613198aDoor.Plain
