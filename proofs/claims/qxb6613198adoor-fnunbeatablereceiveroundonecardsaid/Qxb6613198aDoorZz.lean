import Derived.Test.Qxb6613198aDoorBase
namespace Go.Proofs.Qxb6613198aDoor
open Go.ChangeShapes Go.WideShapes Go.ChangeAt Go.RowKit
open Plain
set_option linter.unusedVariables false
def RetB (e : Ending) : Prop := ∃ b, e = .returned (.bool b)
/-- It returns a Bool; where that is true, no payload is too long. -/
def RetL (pl : Nat → Nat) (M : Nat) (e : Ending) : Prop := ∃ b, e = .returned (.bool b) ∧ (b = true → ∀ i, i < M → pl i ≤ 1048576)
theorem RetL.b {pl : Nat → Nat} {M : Nat} {e : Ending} (h : RetL pl M e) : RetB e := by obtain ⟨b, h, _⟩ := h; exact ⟨b, h⟩
theorem retL_no (pl : Nat → Nat) (M : Nat) : RetL pl M (.returned (.bool false)) := ⟨false, rfl, fun h => by cases h⟩
theorem retL_yes {pl : Nat → Nat} {M : Nat} (h : ∀ i, i < M → pl i ≤ 1048576) : RetL pl M (.returned (.bool true)) := ⟨true, rfl, fun _ => h⟩
set_option maxHeartbeats 1000000 in
set_option maxRecDepth 100000 in
theorem zz_any (w : World) (id n input last : Int) (fo po : Option Addr) (N fc M pc : Nat) (pa : Nat → Option Addr) (pl pcap : Nat → Nat) (hP : ∀ i, i < M → ∃ g o, po = some ⟨g, o, none⟩ ∧ w.cell? ⟨g, o + i, none⟩ = some (.slice (pa i) (pl i) (pcap i))) :
    Calls Tryd.prog 5 #[.int .i64 id, .int .i64 n, .int .i64 input, .int .i64 last, .slice fo N fc, .slice po M pc] w fun e w' => RetL pl M e ∧ w = w' := by
  have HP := hideIt hP
  clear hP
  by_cases c1 : 1048576 < N
  · go_enter Tryd.func5, Tryd.ntmps5
    go_wp2_with fail
    go_ret
    exact ⟨retL_no _ _, rfl⟩
  by_cases c3 : 1048576 < M
  · go_enter Tryd.func5, Tryd.ntmps5
    go_wp2_with fail
    go_ret
    exact ⟨retL_no _ _, rfl⟩
  by_cases c4 : 1048576 < N + M
  · go_enter Tryd.func5, Tryd.ntmps5
    go_wp2_with fail
    go_ret
    exact ⟨retL_no _ _, rfl⟩
  have hz : (0 : Int) ≤ (N : Int) + M ∧ (N : Int) + M ≤ 1048576 := by omega
  go_enter Tryd.func5, Tryd.ntmps5
  go_wp2_with fail
  go_loop [13, 14] (fun z x => ∃ (y : Int) (j : Nat), j ≤ M ∧ 0 ≤ y ∧ y ≤ 1048576 ∧ z = .int .i64 y ∧ x = .int .i64 j ∧ Hid (∀ i, i < j → pl i ≤ 1048576)) (fun _ x => M - (intOf x).toNat)
  case atStart => exact ⟨(N : Int) + M, 0, by omega, hz.1, hz.2, rfl, rfl, fun i hi => by omega⟩
  case round =>
    obtain ⟨y, j, hj, hy0, hy1, rfl, rfl, HJ⟩ := hrel
    by_cases hlt : j < M
    · obtain ⟨g, o, rfl, hc⟩ := HP.out j hlt
      obtain ⟨ln, hln⟩ : ∃ ln, ln = pl j := ⟨_, rfl⟩
      rw [← hln] at hc
      have HLN := hideIt hln
      clear hln
      by_cases d1 : 1048576 < ln
      · go_wp2_with fail
        go_ret
        exact ⟨retL_no _ _, rfl⟩
      by_cases d2 : 1048576 < y + ln
      · go_wp2_with fail
        go_ret
        exact ⟨retL_no _ _, rfl⟩
      have hy2 : y + ln ≤ 1048576 := by omega
      have hy3 : 0 ≤ y + ln := by omega
      have fin : Hid (∀ i, i < j + 1 → pl i ≤ 1048576) := fun i hi => by
        by_cases e : i = j
        · subst e; rw [← HLN.out]; omega
        · exact HJ.out i (by omega)
      go_wp2_with fail
      go_round
      case rel => exact ⟨y + ln, j + 1, by omega, hy3, hy2, rfl, by go_num, fin⟩
      case measure => simp [intOf]; omega
    · obtain rfl : j = M := by omega
      go_wp2_with fail
      go_ret
      exact ⟨retL_yes HJ.out, rfl⟩
end Go.Proofs.Qxb6613198aDoor
