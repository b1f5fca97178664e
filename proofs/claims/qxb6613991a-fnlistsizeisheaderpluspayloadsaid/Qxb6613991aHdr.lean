import Derived.Test.Qxb6613991aSizes
namespace Go.Proofs.Qxb6613991a
open Go.ChangeShapes Go.WideShapes Go.ChangeAt Go.RowKit
open Plain

theorem info5 : (Try.prog.info? 5).map (fun i => (i.zero, i.size, i.bytes)) = some (some (.int .u8 0), 1, 1) := by kernel_rfl

theorem cell_new1 (w : World) (x : Value) (t : TypeId) : ∀ j u, [x][j]? = some u → (w.alloc (.cells #[x] t)).cell? ((⟨w.heap.size, 0, none⟩ : Addr).add j) = some u := by
  intro j u hj
  match j, hj with
  | 0, hj => simp at hj; subst hj; simp [Addr.add]

/-- The digits of the size, the highest first. -/
def digs (n k j : Nat) : List Value := (List.range j).map fun t => .int .u8 ((n : Int) / 2 ^ (8 * (k - 1 - t)) % 256)
theorem digs_succ (n k j : Nat) : digs n k (j + 1) = digs n k j ++ [.int .u8 ((n : Int) / 2 ^ (8 * (k - 1 - j)) % 256)] := by
  simp [digs, List.range_succ]

set_option maxHeartbeats 400000 in
theorem app_short (n : Nat) (h : n < 56) (w : World) :
    Calls Try.prog 17 #[.slice none 0 0, .int .u8 192, .int .i64 n] w fun e w' => ∃ v, e = .returned v ∧ w'.ownsRow w.heap.size 5 1 v 1 [.int .u8 (192 + n)] ∧ Below w.heap.size w w' := by
  obtain ⟨i0, hi, hz0, hz1, hz2⟩ := info_parts info5
  have hl : lsb (n : Int) = 0 := lsb_small (by omega)
  go_enter Try.func17, Try.ntmps17
  go_wp2_with (first
    | (go_at_call 18; refine (longSize_any _ (by omega) (by omega) _).mono ?_; rintro e w' ⟨rfl, hw⟩; have hw := hw.symm; subst hw; rw [hl])
    | (at_builtin; refine wpList_append_own _ rfl _ _ 22 rfl w.heap.size 5 i0 (.int .u8 0) 1 1 Try.underlying22 hi hz0 hz1 hz2 rfl (by decide) _ _ _ rfl ((World.ownsRow_nil w w.heap.size 5 1).alloc _) ⟨w.heap.size, 0, none⟩ 1 1 [.int .u8 (192 + n)] rfl rfl ?c1 ?c2 ?c3 ?c4 ?c5 ?_))
  case c1 => exact cell_new1 _ _ _
  case c2 => intro u hu; simp at hu; subst hu; rfl
  case c3 => simp [maxLen]
  case c4 => omega
  case c5 => simp
  intro v' w1 hown hgrow _
  have hbel := ((Below.refl w.heap.size w).alloc (Nat.le_refl _) (.cells #[.int .u8 (192 + n)] 5)).grown hgrow (by simp) (fun k hk => by simp [Value.ownBlock] at hk)
  go_wp2
  go_ret
  exact ⟨_, rfl, hown, hbel⟩

set_option maxHeartbeats 400000 in
theorem app_long (n k : Nat) (h : 56 ≤ n) (hmax : n ≤ 9223372036854775798) (hk : k = nb n) (w : World) :
    Calls Try.prog 17 #[.slice none 0 0, .int .u8 192, .int .i64 n] w fun e w' => ∃ v, e = .returned v ∧ w'.ownsRow w.heap.size 5 1 v (1 + k) (.int .u8 (247 + k) :: digs n k k) ∧ Below w.heap.size w w' := by
  obtain ⟨i0, hi, hz0, hz1, hz2⟩ := info_parts info5
  have hl : lsb (n : Int) = k := by rw [lsb_big (by omega), hk]; rfl
  have hk1 : 1 ≤ k := by rw [hk]; exact nb_pos (by omega)
  have hk8 : k ≤ 8 := by rw [hk]; exact nb_le _
  have HK : Hid (k = nb n) := hk
  clear hk
  go_enter Try.func17, Try.ntmps17
  go_wp2_with (first
    | (go_at_call 18; refine (longSize_any _ (by omega) (by omega) _).mono ?_; rintro e w' ⟨rfl, hw⟩; have hw := hw.symm; subst hw; rw [hl])
    | (at_builtin; refine wpList_append_own _ rfl _ _ 22 rfl w.heap.size 5 i0 (.int .u8 0) 1 1 Try.underlying22 hi hz0 hz1 hz2 rfl (by decide) _ _ _ rfl ((World.ownsRow_nil w w.heap.size 5 1).alloc _) ⟨w.heap.size, 0, none⟩ 1 1 [.int .u8 (247 + k)] rfl rfl ?c1 ?c2 ?c3 ?c4 ?c5 ?_))
  case c1 => exact cell_new1 _ _ _
  case c2 => intro u hu; simp at hu; subst hu; rfl
  case c3 => simp [maxLen]
  case c4 => omega
  case c5 => simp
  intro v0 w1 hown hgrow _
  have hbel := ((Below.refl w.heap.size w).alloc (Nat.le_refl _) (.cells #[.int .u8 (247 + k)] 5)).grown hgrow (by simp) (fun k hk => by simp [Value.ownBlock] at hk)
  clear hgrow hl
  go_wp2
  go_loopw [0, 8] (fun v i wr => ∃ j : Nat, j ≤ k ∧ i = .int .i64 ((k : Int) - 1 - j) ∧ wr.ownsRow w.heap.size 5 1 v (1 + j) (.int .u8 (247 + k) :: digs n k j) ∧ Below w.heap.size w wr) (fun _ i _ => (intOf i + 1).toNat)
  case atStart => exact ⟨0, by omega, by go_num, hown, hbel⟩
  case round =>
    obtain ⟨j, hj, rfl, hown, hbel⟩ := hrel
    by_cases hlt : j < k
    · have hbs := hbel.size
      have hv := hown.lt
      go_wp2_with (at_builtin; refine wpList_append_own _ rfl _ _ 22 rfl w.heap.size 5 i0 (.int .u8 0) 1 1 Try.underlying22 hi hz0 hz1 hz2 rfl (by decide) _ _ _ rfl (hown.alloc _) ⟨wr.heap.size, 0, none⟩ 1 1 [.int .u8 ((n : Int) / 2 ^ (8 * (k - 1 - j)) % 256)] rfl rfl ?d1 ?d2 ?d3 ?d4 ?d5 ?_)
      case d1 => exact cell_new1 _ _ _
      case d2 => intro u hu; simp at hu; subst hu; rfl
      case d3 => simp [maxLen]; omega
      case d4 => omega
      case d5 => simp; omega
      intro v' w2 hown' hgrow _
      have hbel' := (hbel.alloc (by omega) (.cells #[.int .u8 ((n : Int) / 2 ^ (8 * (k - 1 - j)) % 256)] 5)).grown hgrow (by simp; omega) (fun k hk => (hv k hk).1)
      clear hgrow hv
      go_wp2
      go_roundw
      case rel => exact ⟨j + 1, by omega, by go_num, by rw [digs_succ]; exact hown', hbel'⟩
      case measure => simp [intOf]; omega
    · obtain rfl : j = k := by omega
      go_wp2
      go_ret
      exact ⟨_, rfl, hown, hbel⟩
end Go.Proofs.Qxb6613991a
