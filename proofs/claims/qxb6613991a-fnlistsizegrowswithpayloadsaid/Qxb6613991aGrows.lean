import Derived.Test.Qxb6613991aSizes
namespace Go.Proofs.Qxb6613991a
open Go.ChangeShapes Go.WideShapes Go.ChangeAt Go.RowKit
open Plain

theorem ret_true {b : Bool} (h : b = true) : Ending.returned (.bool b) = .returned (.bool true) := by rw [h]

set_option maxHeartbeats 400000 in
theorem grows_out (a b : Int) (w : World) (h : a < 0 ∨ b < 0 ∨ 9223372036854775798 < a ∨ 9223372036854775798 < b) :
    Calls Try.prog 4 #[.int .i64 a, .int .i64 b] w fun e w' => e = .returned (.bool true) ∧ w' = w := by
  by_cases c1 : a < 0
  · go_enter Try.func4, Try.ntmps4
    go_wp2
    go_ret
    exact ⟨rfl, rfl⟩
  by_cases c2 : b < 0
  · go_enter Try.func4, Try.ntmps4
    go_wp2
    go_ret
    exact ⟨rfl, rfl⟩
  by_cases c3 : 9223372036854775798 < a
  · go_enter Try.func4, Try.ntmps4
    go_wp2
    go_ret
    exact ⟨rfl, rfl⟩
  have c4 : 9223372036854775798 < b := by omega
  go_enter Try.func4, Try.ntmps4
  go_wp2
  go_ret
  exact ⟨rfl, rfl⟩

set_option maxHeartbeats 400000 in
theorem grows_le (a b : Int) (w : World) (h0 : 0 ≤ a) (h1 : a ≤ b) (h2 : b ≤ 9223372036854775798) :
    Calls Try.prog 4 #[.int .i64 a, .int .i64 b] w fun e w' => e = .returned (.bool true) ∧ w' = w := by
  have hm := lsb_mono h1
  have ha := lsb_bd a
  have hb := lsb_bd b
  by_cases he : a = b
  · subst he
    go_enter Try.func4, Try.ntmps4
    go_wp2_with (first | (go_at_call 8; refine (listSize_any _ (by omega) (by omega) _).mono ?_; rintro e w' ⟨rfl, rfl⟩) | (go_at_call 10; refine (model_any _ (by omega) (by omega) _).mono ?_; rintro e w' ⟨rfl, rfl⟩))
    go_ret
    exact ⟨ret_true (b := decide (1 + lsb a ≤ 9)) (decide_eq_true (by omega)), rfl⟩
  · have hlt : a < b := by omega
    have e1 : (a == b) = false := beq_eq_false_iff_ne.2 he
    have e2 : (1 + lsb a + a == 1 + lsb b + b) = false := beq_eq_false_iff_ne.2 (by omega)
    clear he
    go_enter Try.func4, Try.ntmps4
    go_wp2_with (first | (go_at_call 8; refine (listSize_any _ (by omega) (by omega) _).mono ?_; rintro e w' ⟨rfl, rfl⟩) | (go_at_call 10; refine (model_any _ (by omega) (by omega) _).mono ?_; rintro e w' ⟨rfl, rfl⟩))
    go_ret
    exact ⟨ret_true (b := decide (1 + lsb b ≤ 9)) (decide_eq_true (by omega)), rfl⟩

set_option maxHeartbeats 400000 in
theorem grows_gt (a b : Int) (w : World) (h0 : 0 ≤ b) (h1 : b < a) (h2 : a ≤ 9223372036854775798) :
    Calls Try.prog 4 #[.int .i64 a, .int .i64 b] w fun e w' => e = .returned (.bool true) ∧ w' = w := by
  have hm := lsb_mono (a := b) (b := a) (by omega)
  have ha := lsb_bd a
  have hb := lsb_bd b
  have e1 : (b == a) = false := beq_eq_false_iff_ne.2 (by omega)
  have e2 : (1 + lsb b + b == 1 + lsb a + a) = false := beq_eq_false_iff_ne.2 (by omega)
  go_enter Try.func4, Try.ntmps4
  go_wp2_with (first | (go_at_call 8; refine (listSize_any _ (by omega) (by omega) _).mono ?_; rintro e w' ⟨rfl, rfl⟩) | (go_at_call 10; refine (model_any _ (by omega) (by omega) _).mono ?_; rintro e w' ⟨rfl, rfl⟩))
  go_ret
  exact ⟨ret_true (b := decide (1 + lsb a ≤ 9)) (decide_eq_true (by omega)), rfl⟩

theorem grows_any (a b : Int) (w : World) :
    Calls Try.prog 4 #[.int .i64 a, .int .i64 b] w fun e w' => e = .returned (.bool true) ∧ w' = w := by
  by_cases h : a < 0 ∨ b < 0 ∨ 9223372036854775798 < a ∨ 9223372036854775798 < b
  · exact grows_out a b w h
  by_cases h' : a ≤ b
  · exact grows_le a b w (by omega) h' (by omega)
  · exact grows_gt a b w (by omega) (by omega) (by omega)
end Go.Proofs.Qxb6613991a
