import Derived.Test.Qxb6613991aDec
namespace Go.Proofs.Qxb6613991a
open Go.ChangeShapes Go.WideShapes Go.ChangeAt Go.RowKit
open Plain

theorem own_shape {w : World} {base m : Nat} {v : Value} {xs : List Value} (h : w.ownsRow base 5 1 v (m + 1) xs) :
    ∃ g cap, v = .slice (some ⟨g, 0, none⟩) (m + 1) cap ∧ ∀ j u, xs[j]? = some u → w.cell? ⟨g, j, none⟩ = some u := by
  have hc : ∀ g, v.ownBlock = some g → ∀ j u, xs[j]? = some u → w.cell? ((⟨g, 0, none⟩ : Addr).add j) = some u := fun g hg => h.cells hg
  obtain ⟨h1, h2⟩ := h
  rcases h2 with ⟨_, h2⟩ | ⟨g, cap, cur, hv, _⟩
  · omega
  · refine ⟨g, cap, hv, fun j u hj => ?_⟩
    have := hc g (by rw [hv]; rfl) j u hj
    cases j <;> simpa [Addr.add] using this

/-! ZZAppendHeader (7). -/
theorem zz_short (n : Nat) (h : n < 56) (w : World) :
    Calls Try.prog 7 #[.slice none 0 0, .int .u8 192, .int .i64 n] w fun e w' => ∃ g cap, e = .returned (.slice (some ⟨g, 0, none⟩) 1 cap) ∧ w'.cell? ⟨g, 0, none⟩ = some (.int .u8 (192 + n)) ∧ Below w.heap.size w w' := by
  go_enter Try.func7, Try.ntmps7
  go_wp2_with fail
  refine (app_short n h _).mono ?_
  rintro e w1 ⟨v, rfl, hown, hbel⟩
  obtain ⟨g, cap, hv, hc⟩ := own_shape (m := 0) hown
  have hc0 := hc 0 _ rfl
  clear hc hown
  go_wp2
  go_ret
  exact ⟨g, cap, rfl, hc0, hbel⟩

theorem zz_long (n k : Nat) (h : 56 ≤ n) (hmax : n ≤ 9223372036854775798) (hk : k = nb n) (w : World) :
    Calls Try.prog 7 #[.slice none 0 0, .int .u8 192, .int .i64 n] w fun e w' => ∃ g cap, e = .returned (.slice (some ⟨g, 0, none⟩) (1 + k) cap) ∧ w'.cell? ⟨g, 0, none⟩ = some (.int .u8 (247 + k)) ∧
      (∀ t, t < k → w'.cell? ⟨g, 1 + t, none⟩ = some (.int .u8 ((n : Int) / 2 ^ (8 * (k - 1 - t)) % 256))) ∧ Below w.heap.size w w' := by
  have HK : Hid (k = nb n) := hk
  clear hk
  go_enter Try.func7, Try.ntmps7
  go_wp2_with fail
  refine (app_long n k h hmax HK.out _).mono ?_
  rintro e w1 ⟨v, rfl, hown, hbel⟩
  rw [Nat.add_comm 1 k] at hown
  obtain ⟨g, cap, hv, hc⟩ := own_shape hown
  have hc0 := hc 0 _ rfl
  have hct : ∀ t, t < k → w1.cell? ⟨g, 1 + t, none⟩ = some (.int .u8 ((n : Int) / 2 ^ (8 * (k - 1 - t)) % 256)) := by
    intro t ht
    apply hc (1 + t)
    rw [Nat.add_comm 1 t, List.getElem?_cons_succ]
    simp [digs, ht]
  have HC : Hid _ := hct
  clear hc hown hct
  go_wp2
  go_ret
  exact ⟨g, cap, by rw [Nat.add_comm 1 k]; rfl, hc0, HC.out, hbel⟩

set_option maxHeartbeats 400000 in
theorem is_out (a : Int) (w : World) (h : a < 0 ∨ 9223372036854775798 < a) :
    Calls Try.prog 3 #[.int .i64 a] w fun e w' => e = .returned (.bool true) ∧ w = w' := by
  by_cases c1 : a < 0
  · go_enter Try.func3, Try.ntmps3
    go_wp2
    go_ret
    exact ⟨rfl, rfl⟩
  have c2 : 9223372036854775798 < a := by omega
  go_enter Try.func3, Try.ntmps3
  go_wp2
  go_ret
  exact ⟨rfl, rfl⟩

set_option maxHeartbeats 400000 in
theorem is_short (n : Nat) (h : n < 56) (w : World) :
    Calls Try.prog 3 #[.int .i64 n] w fun e w' => e = .returned (.bool true) ∧ Below w.heap.size w w' := by
  have hl : lsb (n : Int) = 0 := lsb_small (by omega)
  have HL : Hid _ := hl
  have hbd := lsb_bd (n : Int)
  clear hl
  go_enter Try.func3, Try.ntmps3
  go_wp2_with fail
  refine (zz_short n h _).mono ?_
  rintro e w1 ⟨g, cap, rfl, hc, hbel⟩
  go_wp2_with fail
  refine (listSize_any _ (by omega) (by omega) _).mono ?_
  rintro e w' ⟨rfl, rfl⟩
  rw [HL.out]
  go_wp2_with fail
  refine (dec_short n g cap h _ hc).mono ?_
  rintro e w' ⟨rfl, rfl⟩
  go_wp2_with (go_at_call 10; refine (model_any _ (by omega) (by omega) _).mono ?_; rintro e w' ⟨rfl, rfl⟩; rw [HL.out])
  go_ret
  exact ⟨rfl, hbel⟩

theorem top_nat (n : Nat) (h : 0 < n) (hn : n < 18446744073709551616) : n / 2 ^ (8 * (nb n - 1)) % 256 ≠ 0 ∧ n / 2 ^ (8 * nb n) = 0 := by
  rcases nb_spec n with h' | h' | h' | h' | h' | h' | h' | h' | h'
  · omega
  all_goals
    obtain ⟨h1, h2⟩ := h'
    try obtain ⟨h2, h3⟩ := h2
    first | rw [h3] | rw [h2]
    simp only [Nat.reduceSub, Nat.reduceMul, Nat.reducePow]
    omega

theorem top_int (n : Nat) (h : 0 < n) (hn : n < 18446744073709551616) : ((n : Int) / 2 ^ (8 * (nb n - 1)) % 256 == 0) = false ∧ (n : Int) / 2 ^ (8 * nb n) = 0 := by
  obtain ⟨h1, h2⟩ := top_nat n h hn
  have e1 : (n : Int) / 2 ^ (8 * (nb n - 1)) % 256 = ((n / 2 ^ (8 * (nb n - 1)) % 256 : Nat) : Int) := by rw [Int.natCast_emod, Int.natCast_ediv, Int.natCast_pow]; rfl
  have e2 : (n : Int) / 2 ^ (8 * nb n) = ((n / 2 ^ (8 * nb n) : Nat) : Int) := by rw [Int.natCast_ediv, Int.natCast_pow]; rfl
  rw [e1, e2, h2]
  exact ⟨beq_eq_false_iff_ne.2 (by omega), rfl⟩

set_option maxHeartbeats 400000 in
theorem is_long (n k : Nat) (h : 56 ≤ n) (hmax : n ≤ 9223372036854775798) (hk : k = nb n) (w : World) :
    Calls Try.prog 3 #[.int .i64 n] w fun e w' => e = .returned (.bool true) ∧ Below w.heap.size w w' := by
  have hl : lsb (n : Int) = k := by rw [lsb_big (by omega), hk]; rfl
  have HL : Hid _ := hl
  have hk1 : 1 ≤ k := by rw [hk]; exact nb_pos (by omega)
  have hk8 : k ≤ 8 := by rw [hk]; exact nb_le _
  have ht := top_int n (by omega) (by omega)
  rw [← hk] at ht
  have HT : Hid _ := ht
  have HK : Hid (k = nb n) := hk
  clear hl hk ht
  go_enter Try.func3, Try.ntmps3
  go_wp2_with fail
  refine (zz_long n k h hmax HK.out _).mono ?_
  rintro e w1 ⟨g, cap, rfl, hc, hd, hbel⟩
  have HD : Hid _ := hd
  clear hd
  go_wp2_with fail
  refine (listSize_any _ (by omega) (by omega) _).mono ?_
  rintro e w' ⟨rfl, rfl⟩
  rw [HL.out]
  go_wp2_with fail
  refine (dec_long n k g cap h hmax hk1 hk8 _ hc HD.out HT.out.1 HT.out.2).mono ?_
  rintro e w' ⟨rfl, rfl⟩
  go_wp2_with (go_at_call 10; refine (model_any _ (by omega) (by omega) _).mono ?_; rintro e w' ⟨rfl, rfl⟩; rw [HL.out])
  go_ret
  exact ⟨rfl, hbel⟩

theorem is_any (a : Int) (w : World) :
    Calls Try.prog 3 #[.int .i64 a] w fun e w' => e = .returned (.bool true) ∧ Below w.heap.size w w' := by
  by_cases h : a < 0 ∨ 9223372036854775798 < a
  · refine (is_out a w h).mono fun e w' ⟨he, hw⟩ => ⟨he, ?_⟩
    subst hw; exact Below.refl _ _
  obtain ⟨n, rfl⟩ := Int.eq_ofNat_of_zero_le (show 0 ≤ a by omega)
  by_cases h' : n < 56
  · exact is_short n h' w
  · exact is_long n (nb n) (by omega) (by omega) rfl w
end Go.Proofs.Qxb6613991a
