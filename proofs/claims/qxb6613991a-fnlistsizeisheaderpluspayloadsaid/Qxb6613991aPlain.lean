import Derived.Lib.BitFns
/-! Plain arithmetic on the sizes of list headers: no Go in sight. -/
namespace Go.Proofs.Qxb6613991a.Plain

/-- How many bytes the big-endian writing of 'n' (below 2^64) takes. -/
def nb (n : Nat) : Nat :=
  if n = 0 then 0 else if n < 256 then 1 else if n < 65536 then 2 else if n < 16777216 then 3 else if n < 4294967296 then 4
  else if n < 1099511627776 then 5 else if n < 281474976710656 then 6 else if n < 72057594037927936 then 7 else 8

theorem nb_spec (n : Nat) : (n = 0 ∧ nb n = 0) ∨ (1 ≤ n ∧ n < 256 ∧ nb n = 1) ∨ (256 ≤ n ∧ n < 65536 ∧ nb n = 2) ∨ (65536 ≤ n ∧ n < 16777216 ∧ nb n = 3) ∨ (16777216 ≤ n ∧ n < 4294967296 ∧ nb n = 4) ∨ (4294967296 ≤ n ∧ n < 1099511627776 ∧ nb n = 5) ∨ (1099511627776 ≤ n ∧ n < 281474976710656 ∧ nb n = 6) ∨ (281474976710656 ≤ n ∧ n < 72057594037927936 ∧ nb n = 7) ∨ (72057594037927936 ≤ n ∧ nb n = 8) := by
  unfold nb
  repeat' split
  all_goals omega

theorem nb_le (n : Nat) : nb n ≤ 8 := by have := nb_spec n; omega

theorem nb_zero : nb 0 = 0 := rfl

theorem nb_mono {a b : Nat} (h : a ≤ b) : nb a ≤ nb b := by have := nb_spec a; have := nb_spec b; omega

theorem nb_pos {a : Nat} (h : 0 < a) : 1 ≤ nb a := by have := nb_spec a; omega

theorem nb_step {m : Nat} (h : 0 < m) (hb : m < 18446744073709551616) : nb m = nb (m / 256) + 1 := by have := nb_spec m; have := nb_spec (m / 256); omega

theorem bl_pos (n : Nat) (h : 0 < n) : 1 ≤ Lib.bitLen n := by
  unfold Lib.bitLen
  rw [show (64 : Nat) = 63 + 1 from rfl, Lib.bitLenAux, if_neg (by omega)]
  omega

theorem bl_byte (n : Nat) (h : 0 < n) (h1 : n < 256) : 1 ≤ Lib.bitLen n ∧ Lib.bitLen n ≤ 8 :=
  ⟨bl_pos n h, Lib.bitLen_le8 ⟨n, h1⟩⟩

/-- The byte count off the bit count. -/
theorem bl_nb (n : Nat) (h : n < 18446744073709551616) : (Lib.bitLen n + 7) / 8 = nb n := by
  by_cases h0 : n = 0
  · subst h0; decide +kernel
  by_cases h1 : n < 256
  · have := bl_byte n (by omega) h1
    have := nb_spec n; omega
  by_cases h2 : n < 65536
  · have := bl_byte (n / 256) (by omega) (by omega)
    have e := Lib.bitLen_shift8 n (by omega) h
    have := nb_spec n; omega
  by_cases h3 : n < 16777216
  · have := bl_byte (n / 65536) (by omega) (by omega)
    have e := Lib.bitLen_shift16 n (by omega) h
    have := nb_spec n; omega
  by_cases h4 : n < 4294967296
  · have := bl_byte (n / 16777216) (by omega) (by omega)
    have e := Lib.bitLen_shift24 n (by omega) h
    have := nb_spec n; omega
  by_cases h5 : n < 1099511627776
  · have := bl_byte (n / 4294967296) (by omega) (by omega)
    have e := Lib.bitLen_shift32 n (by omega) h
    have := nb_spec n; omega
  by_cases h6 : n < 281474976710656
  · have := bl_byte (n / 1099511627776) (by omega) (by omega)
    have e := Lib.bitLen_shift40 n (by omega) h
    have := nb_spec n; omega
  by_cases h7 : n < 72057594037927936
  · have := bl_byte (n / 281474976710656) (by omega) (by omega)
    have e := Lib.bitLen_shift48 n (by omega) h
    have := nb_spec n; omega
  · have := bl_byte (n / 72057594037927936) (by omega) (by omega)
    have e := Lib.bitLen_shift56 n (by omega) h
    have := nb_spec n; omega

theorem bl_le (n : Nat) (h : n < 18446744073709551616) : Lib.bitLen n ≤ 64 := by
  have := bl_nb n h
  have := nb_le n
  omega

/-- What 'longSizeBytes' answers. -/
def lsb (a : Int) : Int := if a < 56 then 0 else (nb a.toNat : Int)

theorem lsb_bd (a : Int) : 0 ≤ lsb a ∧ lsb a ≤ 8 := by
  have := nb_le a.toNat
  unfold lsb; repeat' split
  all_goals omega

theorem lsb_mono {a b : Int} (h : a ≤ b) : lsb a ≤ lsb b := by
  have := nb_mono (a := a.toNat) (b := b.toNat) (by omega)
  unfold lsb; repeat' split
  all_goals omega

theorem lsb_small {a : Int} (h : a < 56) : lsb a = 0 := by unfold lsb; rw [if_pos h]
theorem lsb_big {a : Int} (h : ¬ a < 56) : lsb a = (nb a.toNat : Int) := by unfold lsb; rw [if_neg h]

theorem lsb_len {a : Int} (h : ¬ a < 56) (h1 : a < 18446744073709551616) : ((Lib.bitLen a.toNat : Int) + 7) / 8 = lsb a := by
  rw [lsb_big h, ← bl_nb a.toNat (by omega)]
  omega

end Go.Proofs.Qxb6613991a.Plain
