import Derived.Test.Qxb6613991aRows
import Derived.Test.Qxb6613991aPlain
import Derived.Test.Qxb6613991aShelf
import Derived.WalkKit
import Derived.ProofKit
import Derived.OpenShut
namespace Go.Proofs.Qxb6613991a
open Go.ChangeShapes Go.WideShapes Go.ChangeAt Go.RowKit
open Plain

/-! zzSizeBytes (19): counts the bytes. -/
set_option maxHeartbeats 400000 in
theorem sizeBytes_any (a : Int) (h0 : 0 ≤ a) (h1 : a ≤ 9223372036854775807) (w : World) :
    Calls Try.prog 19 #[.int .i64 a] w fun e w' => e = .returned (.int .i64 (nb a.toNat : Int)) ∧ w' = w := by
  obtain ⟨n, rfl⟩ := Int.eq_ofNat_of_zero_le h0
  rw [Int.toNat_natCast]
  go_enter Try.func19, Try.ntmps19
  go_wp2
  go_loop [3, 4] (fun k m => ∃ i x : Nat, k = .int .i64 i ∧ m = .int .u64 x ∧ x ≤ n ∧ i + nb x = nb n) (fun _ m => (intOf m).toNat)
  case atStart => exact ⟨0, n, rfl, rfl, Nat.le_refl _, by omega⟩
  case round =>
    obtain ⟨i, x, rfl, rfl, hx, hs⟩ := hrel
    have hb := nb_le n
    have hi : i ≤ 8 := by omega
    have Hs : Hid (i + nb x = nb n) := hs
    clear hs
    by_cases hp : 0 < x
    · go_wp2
      go_round
      case rel => exact ⟨i + 1, x / 256, by go_num, by go_num, by omega, by have := nb_step hp (by omega); have := Hs.out; omega⟩
      case measure => simp [intOf]; omega
    · go_wp2
      go_ret
      obtain rfl : x = 0 := by omega
      have := Hs.out
      rw [nb_zero, Nat.add_zero] at this
      subst this
      exact ⟨rfl, rfl⟩

/-! longSizeBytes (18). -/
set_option maxHeartbeats 400000 in
theorem longSize_any (a : Int) (h0 : 0 ≤ a) (h1 : a ≤ 9223372036854775807) (w : World) :
    Calls Try.prog 18 #[.int .i64 a] w fun e w' => e = .returned (.int .i64 (lsb a)) ∧ w' = w := by
  by_cases h : a < 56
  · rw [lsb_small h]
    go_enter Try.func18, Try.ntmps18
    go_wp2
    go_ret
    exact ⟨rfl, rfl⟩
  · rw [← lsb_len h (by omega)]
    have hb := bl_le a.toNat (by omega)
    go_enter Try.func18, Try.ntmps18
    go_wp2_with (go_at_call 20; refine (Try.bits_Len64 _ _ (by omega) (by omega)).mono ?_; rintro e w' ⟨rfl, rfl⟩)
    go_ret
    exact ⟨rfl, rfl⟩

/-! ListSize (8). -/
theorem listSize_any (a : Int) (h0 : 0 ≤ a) (h1 : a ≤ 9223372036854775798) (w : World) :
    Calls Try.prog 8 #[.int .i64 a] w fun e w' => e = .returned (.int .i64 (1 + lsb a + a)) ∧ w' = w := by
  have hb := lsb_bd a
  go_enter Try.func8, Try.ntmps8
  go_wp2_with (go_at_call 18; refine (longSize_any _ (by omega) (by omega) _).mono ?_; rintro e w' ⟨rfl, rfl⟩)
  go_ret
  exact ⟨rfl, rfl⟩

/-! zzListSizeModel (10). -/
theorem ret_int {k : IntKind} {a b : Int} (h : a = b) : Ending.returned (.int k a) = .returned (.int k b) := by rw [h]

theorem model_any (a : Int) (h0 : 0 ≤ a) (h1 : a ≤ 9223372036854775798) (w : World) :
    Calls Try.prog 10 #[.int .i64 a] w fun e w' => e = .returned (.int .i64 (1 + lsb a + a)) ∧ w' = w := by
  by_cases h : a ≤ 55
  · have e : Hid (a + 1 = 1 + lsb a + a) := by rw [lsb_small (by omega)]; show _ = _; omega
    go_enter Try.func10, Try.ntmps10
    go_wp2
    go_ret
    exact ⟨ret_int e.out, rfl⟩
  · have hb := nb_le a.toNat
    have e : Hid (a + 1 + (nb a.toNat : Int) = 1 + lsb a + a) := by rw [lsb_big (by omega)]; show _ = _; omega
    go_enter Try.func10, Try.ntmps10
    go_wp2_with (go_at_call 19; refine (sizeBytes_any _ (by omega) (by omega) _).mono ?_; rintro e w' ⟨rfl, rfl⟩)
    go_ret
    exact ⟨ret_int e.out, rfl⟩
end Go.Proofs.Qxb6613991a
