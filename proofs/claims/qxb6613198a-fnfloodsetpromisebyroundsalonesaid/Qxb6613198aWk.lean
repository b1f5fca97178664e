import Derived.Test.Qxb6613198aRows
import Derived.WalkKit
import Derived.ProofKit
import Derived.OpenShut
import Derived.ShutString
namespace Go.Proofs.Qxb6613198a
open Go.ChangeShapes Go.WideShapes Go.ChangeAt Go.RowKit

set_option maxHeartbeats 400000 in
theorem early (a0 a1 a2 a3 a4 a5 a6 : Int) (w : World) (h : a0 < 1 ∨ a1 < 0 ∨ a0 ≤ a1 ∨ a2 < 1) :
    Calls Try.prog 3 #[.int .i64 a0, .int .i64 a1, .int .i64 a2, .int .i64 a3, .int .i64 a4, .int .i64 a5, .int .i64 a6] w fun e w' => e = .returned (.bool true) ∧ w' = w := by
  by_cases c1 : a0 < 1
  · go_enter Try.func3, Try.ntmps3
    go_wp2
    go_ret
    exact ⟨rfl, rfl⟩
  by_cases c2 : a1 < 0
  · go_enter Try.func3, Try.ntmps3
    go_wp2
    go_ret
    exact ⟨rfl, rfl⟩
  by_cases c3 : a0 ≤ a1
  · go_enter Try.func3, Try.ntmps3
    go_wp2
    go_ret
    exact ⟨rfl, rfl⟩
  have c4 : a2 < 1 := by omega
  go_enter Try.func3, Try.ntmps3
  go_wp2
  go_ret
  exact ⟨rfl, rfl⟩

set_option maxHeartbeats 400000 in
theorem early2 (a0 a1 a2 a3 a4 a5 a6 : Int) (w : World) (h1 : 1 ≤ a0) (h2 : 0 ≤ a1) (h3 : a1 < a0) (h4 : 1 ≤ a2) (h : a3 < 1 ∨ a4 < 0 ∨ a3 ≤ a4 ∨ a5 < 1) :
    Calls Try.prog 3 #[.int .i64 a0, .int .i64 a1, .int .i64 a2, .int .i64 a3, .int .i64 a4, .int .i64 a5, .int .i64 a6] w fun e w' => e = .returned (.bool true) ∧ w' = w := by
  by_cases c1 : a3 < 1
  · go_enter Try.func3, Try.ntmps3
    go_wp2
    go_ret
    exact ⟨rfl, rfl⟩
  by_cases c2 : a4 < 0
  · go_enter Try.func3, Try.ntmps3
    go_wp2
    go_ret
    exact ⟨rfl, rfl⟩
  by_cases c3 : a3 ≤ a4
  · go_enter Try.func3, Try.ntmps3
    go_wp2
    go_ret
    exact ⟨rfl, rfl⟩
  have c4 : a5 < 1 := by omega
  go_enter Try.func3, Try.ntmps3
  go_wp2
  go_ret
  exact ⟨rfl, rfl⟩


theorem new_any (n t r : Int) (w : World) :
    Calls Try.prog 4 #[.int .i64 n, .int .i64 t, .int .i64 r] w fun e w' => e = .returned (.pointer (some ⟨w.heap.size, 0, none⟩)) ∧ w' = w.alloc (.cells #[.int .i64 n, .int .i64 t, .int .i64 r] 31) := by
  go_enter Try.func4, Try.ntmps4
  go_wp2
  go_ret
  exact ⟨rfl, rfl⟩

theorem promise_any (b : Nat) (r f : Int) (w : World) (hb : b < w.heap.size) (hc : w.cell? ⟨b, 2, none⟩ = some (.int .i64 r)) :
    Calls Try.prog 5 #[.pointer (some ⟨b, 0, none⟩), .int .i64 f] w fun e w' => e = .returned (.agg #[.bool true, .bool false, .bool false, .int .i64 r]) ∧ w' = w.alloc (.cells #[.bool true, .bool false, .bool false, .int .i64 r] 23) := by
  go_enter Try.func5, Try.ntmps5
  go_wp2
  exact bodyPost_ret (v := .agg #[.bool true, .bool false, .bool false, .int .i64 r]) (by simp [results, Try.results5, go_sem]) rfl ⟨rfl, rfl⟩

set_option maxHeartbeats 400000 in
theorem main_eq (a0 a1 a2 a3 a4 a6 : Int) (w : World) (h1 : 1 ≤ a0) (h2 : 0 ≤ a1) (h3 : a1 < a0) (h4 : 1 ≤ a2) (k1 : 1 ≤ a3) (k2 : 0 ≤ a4) (k3 : a4 < a3) :
    Calls Try.prog 3 #[.int .i64 a0, .int .i64 a1, .int .i64 a2, .int .i64 a3, .int .i64 a4, .int .i64 a2, .int .i64 a6] w fun e w' => e = .returned (.bool true) ∧ Grown w w' := by
  go_enter Try.func3, Try.ntmps3
  go_wp2_with fail
  refine (new_any _ _ _ _).mono ?_
  rintro e w' ⟨rfl, rfl⟩
  go_wp2_with fail
  refine (promise_any _ a2 _ _ (by simp [go_sem]) (by simp [go_sem])).mono ?_
  rintro e w' ⟨rfl, rfl⟩
  go_wp2_with fail
  refine (new_any _ _ _ _).mono ?_
  rintro e w' ⟨rfl, rfl⟩
  go_wp2_with fail
  refine (promise_any _ a2 _ _ (by simp [go_sem]) (by simp [go_sem])).mono ?_
  rintro e w' ⟨rfl, rfl⟩
  go_wp2
  go_ret
  exact ⟨rfl, by repeat (first | exact Grown.refl _ | apply Grown.drew | apply Grown.alloc)⟩

set_option maxHeartbeats 400000 in
theorem main_ne (a0 a1 a2 a3 a4 a5 a6 : Int) (w : World) (h1 : 1 ≤ a0) (h2 : 0 ≤ a1) (h3 : a1 < a0) (h4 : 1 ≤ a2) (k1 : 1 ≤ a3) (k2 : 0 ≤ a4) (k3 : a4 < a3) (k4 : 1 ≤ a5) (hne : (a2 == a5) = false) :
    Calls Try.prog 3 #[.int .i64 a0, .int .i64 a1, .int .i64 a2, .int .i64 a3, .int .i64 a4, .int .i64 a5, .int .i64 a6] w fun e w' => e = .returned (.bool true) ∧ Grown w w' := by
  go_enter Try.func3, Try.ntmps3
  go_wp2_with fail
  refine (new_any _ _ _ _).mono ?_
  rintro e w' ⟨rfl, rfl⟩
  go_wp2_with fail
  refine (promise_any _ a2 _ _ (by simp [go_sem]) (by simp [go_sem])).mono ?_
  rintro e w' ⟨rfl, rfl⟩
  go_wp2_with fail
  refine (new_any _ _ _ _).mono ?_
  rintro e w' ⟨rfl, rfl⟩
  go_wp2_with fail
  refine (promise_any _ a5 _ _ (by simp [go_sem]) (by simp [go_sem])).mono ?_
  rintro e w' ⟨rfl, rfl⟩
  go_wp2
  go_ret
  exact ⟨rfl, by repeat (first | exact Grown.refl _ | apply Grown.drew | apply Grown.alloc)⟩

end Go.Proofs.Qxb6613198a
