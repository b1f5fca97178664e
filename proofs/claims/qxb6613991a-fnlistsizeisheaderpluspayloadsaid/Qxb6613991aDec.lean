import Derived.Test.Qxb6613991aHdr
namespace Go.Proofs.Qxb6613991a
open Go.ChangeShapes Go.WideShapes Go.ChangeAt Go.RowKit
open Plain

theorem ret_tup {a b c d : Int} (h : a = b) (k : c = d) : Ending.returned (.tuple #[.int .u64 a, .int .i64 c, .bool true]) = .returned (.tuple #[.int .u64 b, .int .i64 d, .bool true]) := by rw [h, k]

theorem or_byte (q : Nat) (hq : q < 18446744073709551616) : bits .or .u64 (IntKind.u64.wrap ((q / 256 : Nat) * 256 : Int)) ((q % 256 : Nat) : Int) = (q : Int) := by
  have e : IntKind.u64.wrap (((q / 256 : Nat) : Int) * 256) = ((q / 256 * 256 : Nat) : Int) := by
    unfold IntKind.wrap
    simp [IntKind.bits, IntKind.signed]
    omega
  rw [e, u64_or_nat _ _ (by omega) (by omega), nat_join 8 _ _ (by omega) (by omega)]
  omega

theorem pow_split (n k t : Nat) (ht : t < k) : n / 2 ^ (8 * (k - t)) = n / 2 ^ (8 * (k - 1 - t)) / 256 := by
  rw [show 8 * (k - t) = 8 * (k - 1 - t) + 8 from by omega, Nat.pow_add, ← Nat.div_div_eq_div_mul]

/-- One round: the digits read so far, times 256, or the next digit. -/
theorem or_step (n k t : Nat) (hn : n < 18446744073709551616) (ht : t < k) :
    bits .or .u64 (IntKind.u64.wrap ((n : Int) / 2 ^ (8 * (k - t)) * 256)) ((n : Int) / 2 ^ (8 * (k - 1 - t)) % 256) = (n : Int) / 2 ^ (8 * (k - (t + 1))) := by
  have h1 : (n : Int) / 2 ^ (8 * (k - t)) = ((n / 2 ^ (8 * (k - t)) : Nat) : Int) := by push_cast; rfl
  have h2 : (n : Int) / 2 ^ (8 * (k - 1 - t)) % 256 = ((n / 2 ^ (8 * (k - 1 - t)) % 256 : Nat) : Int) := by rw [Int.natCast_emod, Int.natCast_ediv, Int.natCast_pow]; rfl
  have h3 : (n : Int) / 2 ^ (8 * (k - (t + 1))) = ((n / 2 ^ (8 * (k - 1 - t)) : Nat) : Int) := by rw [show k - (t + 1) = k - 1 - t from by omega]; push_cast; rfl
  rw [h1, h2, h3, pow_split n k t ht]
  exact or_byte _ (Nat.lt_of_le_of_lt (Nat.div_le_self _ _) hn)

set_option maxHeartbeats 400000 in
set_option maxRecDepth 100000 in
theorem dec_short (n g cap : Nat) (h : n < 56) (w : World) (hc : w.cell? ⟨g, 0, none⟩ = some (.int .u8 (192 + n))) :
    Calls Try.prog 9 #[.slice (some ⟨g, 0, none⟩) 1 cap] w fun e w' => e = .returned (.tuple #[.int .u64 n, .int .i64 1, .bool true]) ∧ w = w' := by
  go_enter Try.func9, Try.ntmps9
  go_wp2
  go_ret3
  exact ⟨ret_tup (a := 192 + (n : Int) - 192) (c := 1) (by omega) rfl, rfl⟩

set_option maxHeartbeats 400000 in
set_option maxRecDepth 100000 in
theorem dec_long (n k g cap : Nat) (h : 56 ≤ n) (hmax : n ≤ 9223372036854775798) (hk1 : 1 ≤ k) (hk8 : k ≤ 8) (w : World) (hc : w.cell? ⟨g, 0, none⟩ = some (.int .u8 (247 + k)))
    (hd : ∀ t, t < k → w.cell? ⟨g, 1 + t, none⟩ = some (.int .u8 ((n : Int) / 2 ^ (8 * (k - 1 - t)) % 256))) (hne : ((n : Int) / 2 ^ (8 * (k - 1)) % 256 == 0) = false) (htop : (n : Int) / 2 ^ (8 * k) = 0) :
    Calls Try.prog 9 #[.slice (some ⟨g, 0, none⟩) (1 + k) cap] w fun e w' => e = .returned (.tuple #[.int .u64 n, .int .i64 (1 + k), .bool true]) ∧ w = w' := by
  have hd0 : w.cell? ⟨g, 1, none⟩ = some (.int .u8 ((n : Int) / 2 ^ (8 * (k - 1)) % 256)) := hd 0 (by omega)
  have HT : Hid _ := htop
  have HD : Hid (∀ t, t < k → w.cell? ⟨g, 1 + t, none⟩ = some (.int .u8 ((n : Int) / 2 ^ (8 * (k - 1 - t)) % 256))) := hd
  clear hd htop
  go_enter Try.func9, Try.ntmps9
  go_wp2
  go_loop [7, 8] (fun v i => ∃ t : Nat, t ≤ k ∧ i = .int .i64 (1 + (t : Int)) ∧ v = .int .u64 ((n : Int) / 2 ^ (8 * (k - t)))) (fun _ i => (k + 1 - intOf i).toNat)
  case atStart => exact ⟨0, by omega, rfl, congrArg (Value.int .u64) HT.out.symm⟩
  case round =>
    obtain ⟨t, ht, rfl, rfl⟩ := hrel
    by_cases hlt : t < k
    · have hc1 := HD.out t hlt
      go_wp2
      go_round
      case rel => exact ⟨t + 1, by omega, by go_num, congrArg (Value.int .u64) (or_step n k t (by omega) hlt)⟩
      case measure => simp [intOf]; omega
    · obtain rfl : t = k := by omega
      go_wp2
      go_ret3
      exact ⟨ret_tup (a := (n : Int)) (c := 1 + (247 + (t : Int) - 247)) rfl (by omega), rfl⟩
end Go.Proofs.Qxb6613991a
