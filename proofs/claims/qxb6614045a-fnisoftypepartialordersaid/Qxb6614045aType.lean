import Derived.Test.Qxb6614045aRows
import Derived.WalkKit
import Derived.ProofKit
import Derived.OpenShut
import Derived.ShutString
namespace Go.Proofs.Qxb6614045a
open Go.ChangeShapes Go.WideShapes Go.ChangeAt Go.RowKit

set_option maxHeartbeats 400000 in
theorem bytes9 (a b c : ByteArray) (w : World) :
    Calls Try.prog 9 #[.string a, .string b, .string c] w fun e w' => ∃ r : Bool, e = .returned (.bool r) ∧ w' = w := by
  go_enter Try.func9, Try.ntmps9
  go_wp2
  all_goals (go_ret; exact ⟨_, rfl, rfl⟩)

/-- "integer", "number" as bytes. -/
def INT : List UInt8 := [105, 110, 116, 101, 103, 101, 114]
def NUM : List UInt8 := [110, 117, 109, 98, 101, 114]

/-- What 'isOfType' answers. -/
def ofT (a b : List UInt8) : Bool := a == b || (a == INT && b == NUM)

theorem ofT_self (a : List UInt8) : ofT a a = true := by simp [ofT]
theorem ofT_trans {a b c : List UInt8} (h : ofT a b = true) (k : ofT b c = true) : ofT a c = true := by
  simp only [ofT, Bool.or_eq_true, Bool.and_eq_true, beq_iff_eq] at *
  rcases h with rfl | ⟨rfl, rfl⟩
  · exact k
  · rcases k with rfl | ⟨k, _⟩
    · exact Or.inr ⟨rfl, rfl⟩
    · exact absurd k (by decide)
theorem ofT_anti {a b : List UInt8} (hn : (a == b) = false) (h : ofT a b = true) : ofT b a = false := by
  have hn' : a ≠ b := by simpa using hn
  simp only [ofT, Bool.or_eq_true, Bool.and_eq_true, beq_iff_eq] at h
  rcases h with rfl | ⟨rfl, rfl⟩
  · exact absurd rfl hn'
  · decide

theorem ofT_eq {a b : List UInt8} (h : (a == b) = true) : ofT a b = true := by simp [ofT, h]
theorem ofT_ne {a b : List UInt8} (h : (a == b) = false) (k : (a == INT) = false) : ofT a b = false := by simp [ofT, h, k]
theorem ofT_int {a b : List UInt8} (h : (a == b) = false) (k : (a == INT) = true) : ofT a b = (b == NUM) := by simp [ofT, h, k]

theorem hideIt {p : Prop} (h : p) : Hid p := h

theorem ret_bool {a b : Bool} (h : a = b) : Ending.returned (.bool a) = .returned (.bool b) := by rw [h]

set_option maxHeartbeats 400000 in
theorem isOf (a b : ByteArray) (w : World) :
    Calls Try.prog 14 #[.string a, .string b] w fun e w' => e = .returned (.bool (ofT a.toList b.toList)) ∧ w' = w := by
  by_cases h : (a.toList == b.toList) = true
  · have e := hideIt (ofT_eq h)
    go_enter Try.func14, Try.ntmps14
    go_wp2
    go_ret
    exact ⟨by rw [e.out]; rfl, rfl⟩
  · have h' : (a.toList == b.toList) = false := by simpa using h
    clear h
    by_cases k : (a.toList == INT) = true
    · have e := hideIt (ofT_int h' k)
      have k' : (a.toList == [105, 110, 116, 101, 103, 101, 114]) = true := k
      clear k
      go_enter Try.func14, Try.ntmps14
      go_wp2
      all_goals go_ret
      all_goals refine ⟨?_, rfl⟩
      all_goals rw [e.out]
      all_goals (unfold NUM; simp_all)
    · have e := hideIt (ofT_ne h' (Bool.eq_false_iff.2 k))
      have k' : (a.toList == [105, 110, 116, 101, 103, 101, 114]) = false := Bool.eq_false_iff.2 k
      clear k
      go_enter Try.func14, Try.ntmps14
      go_wp2
      go_ret
      exact ⟨by rw [e.out]; rfl, rfl⟩

theorem zzIsOf (a b : ByteArray) (w : World) :
    Calls Try.prog 10 #[.string a, .string b] w fun e w' => e = .returned (.bool (ofT a.toList b.toList)) ∧ w' = w := by
  go_enter Try.func10, Try.ntmps10
  go_wp2_with (go_at_call 14; refine (isOf _ _ _).mono ?_; rintro e w' ⟨rfl, rfl⟩)
  go_ret
  exact ⟨rfl, rfl⟩

set_option maxHeartbeats 400000 in
theorem order_long (a b c : ByteArray) (w : World) (hl : (65536 : Int) < a.size ∨ (65536 : Int) < b.size ∨ (65536 : Int) < c.size) :
    Calls Try.prog 4 #[.string a, .string b, .string c] w fun e w' => e = .returned (.bool true) ∧ w' = w := by
  by_cases c1 : (65536 : Int) < a.size
  · go_enter Try.func4, Try.ntmps4
    go_wp2_with (go_at_call 9; refine (bytes9 _ _ _ _).mono ?_; rintro e w' ⟨r, rfl, rfl⟩)
    all_goals (go_ret; exact ⟨rfl, rfl⟩)
  by_cases c2 : (65536 : Int) < b.size
  · go_enter Try.func4, Try.ntmps4
    go_wp2_with (go_at_call 9; refine (bytes9 _ _ _ _).mono ?_; rintro e w' ⟨r, rfl, rfl⟩)
    all_goals (go_ret; exact ⟨rfl, rfl⟩)
  have c3 : (65536 : Int) < c.size := by omega
  go_enter Try.func4, Try.ntmps4
  go_wp2_with (go_at_call 9; refine (bytes9 _ _ _ _).mono ?_; rintro e w' ⟨r, rfl, rfl⟩)
  all_goals (go_ret; exact ⟨rfl, rfl⟩)

set_option maxHeartbeats 400000 in
/-- a and b of one text. -/
theorem order_same (a b c : ByteArray) (w : World) (h1 : ¬ (65536 : Int) < a.size) (h2 : ¬ (65536 : Int) < b.size) (h3 : ¬ (65536 : Int) < c.size)
    (haa : ofT a.toList a.toList = true) (hab : ofT a.toList b.toList = true) (y : Bool) (hbc : ofT b.toList c.toList = y) (hac : ofT a.toList c.toList = y) (hu : (a.toList == b.toList) = true) :
    Calls Try.prog 4 #[.string a, .string b, .string c] w fun e w' => e = .returned (.bool true) ∧ w' = w := by
  cases y
  all_goals
    go_enter Try.func4, Try.ntmps4
    go_wp2_with (first | (go_at_call 9; refine (bytes9 _ _ _ _).mono ?_; rintro e w' ⟨r, rfl, rfl⟩) | (go_at_call 10; refine (zzIsOf _ _ _).mono ?_; rintro e w' ⟨rfl, rfl⟩))
    all_goals (go_ret; exact ⟨rfl, rfl⟩)

set_option maxHeartbeats 400000 in
/-- a is not of type b. -/
theorem order_no (a b c : ByteArray) (w : World) (h1 : ¬ (65536 : Int) < a.size) (h2 : ¬ (65536 : Int) < b.size) (h3 : ¬ (65536 : Int) < c.size)
    (haa : ofT a.toList a.toList = true) (hab : ofT a.toList b.toList = false) (hu : (a.toList == b.toList) = false) :
    Calls Try.prog 4 #[.string a, .string b, .string c] w fun e w' => e = .returned (.bool true) ∧ w' = w := by
  go_enter Try.func4, Try.ntmps4
  go_wp2_with (first | (go_at_call 9; refine (bytes9 _ _ _ _).mono ?_; rintro e w' ⟨r, rfl, rfl⟩) | (go_at_call 10; refine (zzIsOf _ _ _).mono ?_; rintro e w' ⟨rfl, rfl⟩))
  all_goals (go_ret; exact ⟨rfl, rfl⟩)

set_option maxHeartbeats 400000 in
/-- a is of type b, and is another. -/
theorem order_up (a b c : ByteArray) (w : World) (h1 : ¬ (65536 : Int) < a.size) (h2 : ¬ (65536 : Int) < b.size) (h3 : ¬ (65536 : Int) < c.size)
    (haa : ofT a.toList a.toList = true) (hab : ofT a.toList b.toList = true) (hba : ofT b.toList a.toList = false) (hu : (a.toList == b.toList) = false)
    (h : ofT b.toList c.toList = false ∨ (ofT b.toList c.toList = true ∧ ofT a.toList c.toList = true)) :
    Calls Try.prog 4 #[.string a, .string b, .string c] w fun e w' => e = .returned (.bool true) ∧ w' = w := by
  rcases h with h | ⟨h, k⟩
  all_goals
    go_enter Try.func4, Try.ntmps4
    go_wp2_with (first | (go_at_call 9; refine (bytes9 _ _ _ _).mono ?_; rintro e w' ⟨r, rfl, rfl⟩) | (go_at_call 10; refine (zzIsOf _ _ _).mono ?_; rintro e w' ⟨rfl, rfl⟩))
    all_goals (go_ret; exact ⟨rfl, rfl⟩)

/-- The law's walk. -/
theorem order_any (a b c : ByteArray) (w : World) :
    Calls Try.prog 4 #[.string a, .string b, .string c] w fun e w' => e = .returned (.bool true) ∧ w' = w := by
  by_cases hl : (65536 : Int) < a.size ∨ (65536 : Int) < b.size ∨ (65536 : Int) < c.size
  · exact order_long a b c w hl
  have haa := ofT_self a.toList
  cases hu : (a.toList == b.toList)
  · cases hab : ofT a.toList b.toList
    · exact order_no a b c w (by omega) (by omega) (by omega) haa hab hu
    · refine order_up a b c w (by omega) (by omega) (by omega) haa hab (ofT_anti hu hab) hu ?_
      cases hbc : ofT b.toList c.toList
      · exact Or.inl rfl
      · exact Or.inr ⟨rfl, ofT_trans hab hbc⟩
  · have he : a.toList = b.toList := by simpa using hu
    exact order_same a b c w (by omega) (by omega) (by omega) haa (ofT_eq hu) _ rfl (by rw [he]) hu
end Go.Proofs.Qxb6614045a
