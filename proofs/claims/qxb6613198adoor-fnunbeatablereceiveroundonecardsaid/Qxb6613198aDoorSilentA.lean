import Derived.Test.Qxb6613198aDoorBase
namespace Go.Proofs.Qxb6613198aDoor
open Go.ChangeShapes Go.WideShapes Go.ChangeAt Go.RowKit
open Plain

set_option maxHeartbeats 400000 in
/-- gather (18) with no message. -/
theorem gather_nil (w : World) (bp bsh n : Nat) (r : Int) (cp : Array Value) (SH : List Int) (hbp : Blk w bp cp 59) (h4 : cp[4]? = some (.slice (some ⟨bsh, 0, none⟩) n n)) (hsh : Blk w bsh (ints SH) 3) (hl : SH.length = n) (hn : n ≤ 64) (hne : bp ≠ bsh) :
    Calls Tryd.prog 18 #[.pointer (some ⟨bp, 0, none⟩), .int .i64 r, .slice none 0 0] w fun e w' => e = .returned (.int .u64 0) ∧ Blk w' bsh (ints (List.replicate n MAXI)) 3 ∧ Keeps [bsh] w w' := by
  have c4 := (hbp.cell 4).trans h4
  have HB := hideIt hbp
  have H4 := hideIt h4
  have HS := hideIt hsh
  have HL := hideIt hl
  clear hbp h4 hsh hl
  go_enter Tryd.func18, Tryd.ntmps18
  go_wp2
  go_loopw [17] (fun i wr => ∃ k : Nat, k ≤ n ∧ i = .int .i64 k ∧ Blk wr bsh (ints (fillTo SH k MAXI)) 3 ∧ Keeps [bsh] w wr) (fun i _ => n - (intOf i).toNat)
  case atStart => exact ⟨0, by omega, rfl, by rw [fillTo_zero]; exact HS.out, Keeps.refl _ _⟩
  case round =>
    obtain ⟨k, hk, rfl, hB, hK⟩ := hrel
    by_cases hlt : k < n
    · have d4 : wr.cell? ⟨bp, 4, none⟩ = _ := ((hK.blk HB.out (by simpa using hne)).cell 4).trans H4.out
      have dk : wr.cell? ⟨bsh, k, none⟩ = _ := (hB.cell k).trans (ints_get _ k (by rw [fillTo_len _ _ _ (by rw [HL.out]; omega), HL.out]; exact hlt))
      have df := hB.frozen k
      have B' := hB.set k (.int .i64 9223372036854775807)
      have K' := hK.setCell (b := bsh) (i := k) (by simp) (.int .i64 9223372036854775807)
      rw [ints_set, show (9223372036854775807 : Int) = MAXI from rfl, fillTo_succ _ _ _ (by rw [HL.out]; exact hlt)] at B'
      have HB' := hideIt B'
      have HK' := hideIt K'
      clear B' K' hB hK c4
      go_wp2
      go_roundw
      case rel => exact ⟨k + 1, by omega, by go_num, HB'.out, HK'.out⟩
      case measure => simp [intOf]; omega
    · obtain rfl : k = n := by omega
      rw [show fillTo SH k MAXI = List.replicate k MAXI from by have := fillTo_all SH MAXI; rw [HL.out] at this; exact this] at hB
      have HB' := hideIt hB
      have HK' := hideIt hK
      clear hB hK c4
      go_wp2
      refine wp_loop_rounds 1 ?_; rw [rounds_succ]
      go_wp2
      go_ret
      exact ⟨rfl, HB'.out, HK'.out⟩
end Go.Proofs.Qxb6613198aDoor
