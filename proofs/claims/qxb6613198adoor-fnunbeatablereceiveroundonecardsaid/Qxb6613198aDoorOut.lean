import Derived.Test.Qxb6613198aDoorMain0
namespace Go.Proofs.Qxb6613198aDoor
open Go.ChangeShapes Go.WideShapes Go.ChangeAt Go.RowKit
open Plain
set_option linter.unusedVariables false
set_option linter.unusedSimpArgs false

set_option maxHeartbeats 4000000 in
set_option maxRecDepth 100000 in
theorem law3_early (w : World) (id n input last : Int) (fo po : Option Addr) (N M fc pc : Nat)
    (hz : Calls Tryd.prog 5 #[.int .i64 id, .int .i64 n, .int .i64 input, .int .i64 last, .slice fo N fc, .slice po M pc] w fun e w' => RetB e ∧ w = w') (hbig : N ≤ 9223372036854775807 ∧ M ≤ 9223372036854775807) (hb : 65536 < N ∨ 65536 < M ∨ 1048576 < 8 * N + 24 * M) :
    Calls Tryd.prog 3 #[.int .i64 id, .int .i64 n, .int .i64 input, .int .i64 last, .slice fo N fc, .slice po M pc] w fun e w' => e = .returned (.bool true) ∧ w = w' := by
  have HZ := hideIt hz
  clear hz
  by_cases c1 : 65536 < N
  · clear hb
    go_enter Tryd.func3, Tryd.ntmps3
    go_wp2_with fail
    refine HZ.out.mono ?_
    rintro e w1 ⟨⟨b, rfl⟩, rfl⟩
    clear HZ
    cases b
    all_goals
      go_wp2_with fail
      go_ret
      exact ⟨rfl, rfl⟩
  by_cases c2 : 65536 < M
  · clear hb
    go_enter Tryd.func3, Tryd.ntmps3
    go_wp2_with fail
    refine HZ.out.mono ?_
    rintro e w1 ⟨⟨b, rfl⟩, rfl⟩
    clear HZ
    cases b
    all_goals
      go_wp2_with fail
      go_ret
      exact ⟨rfl, rfl⟩
  have hb3 : 1048576 < 8 * (N : Int) + 24 * (M : Int) := by omega
  clear hb
  go_enter Tryd.func3, Tryd.ntmps3
  go_wp2_with fail
  refine HZ.out.mono ?_
  rintro e w1 ⟨⟨b, rfl⟩, rfl⟩
  clear HZ
  cases b
  all_goals
    go_wp2_with fail
    go_ret
    exact ⟨rfl, rfl⟩

set_option maxHeartbeats 8000000 in
set_option maxRecDepth 100000 in
theorem law3_out (w : World) (id n input last : Int) (fo po : Option Addr) (N M fc pc : Nat) (pa : Nat → Option Addr) (pl pcap : Nat → Nat)
    (hz : Calls Tryd.prog 5 #[.int .i64 id, .int .i64 n, .int .i64 input, .int .i64 last, .slice fo N fc, .slice po M pc] w fun e w' => RetL pl M e ∧ w = w')
    (HP : Hid (∀ i, i < M → ∃ g o, po = some ⟨g, o, none⟩ ∧ w.cell? ⟨g, o + i, none⟩ = some (.slice (pa i) (pl i) (pcap i))))
    (hN : N ≤ 65536) (hM : M ≤ 65536) (hNM : 8 * N + 24 * M ≤ 1048576)
    (HBAD : Hid (N ≠ M ∨ n < 1 ∨ 64 < n ∨ id < 0 ∨ n ≤ id ∨ input < 0 ∨ 1 < input ∨ last < 1 ∨ 65536 < last)) :
    Calls Tryd.prog 3 #[.int .i64 id, .int .i64 n, .int .i64 input, .int .i64 last, .slice fo N fc, .slice po M pc] w fun e w' => e = .returned (.bool true) ∧ w = w' := by
  have HZ := hideIt hz
  clear hz
  go_enter Tryd.func3, Tryd.ntmps3
  go_wp2_with fail
  refine HZ.out.mono ?_
  rintro e w1 ⟨⟨b, rfl, hbl⟩, rfl⟩
  have HCB := hideIt hbl
  clear HZ hbl
  cases b with
  | false =>
    go_wp2_with fail
    go_ret
    exact ⟨rfl, rfl⟩
  | true =>
    have HC : Hid (∀ i, i < M → pl i ≤ 9223372036854775807 / 2) := fun i hi => by have := HCB.out rfl i hi; omega
    clear HCB
    go_wp2_with fail
    refine total_loop w M pc po _ pa pl pcap _ _ _ _ _ _ _ _ _ _ _ _ _ _ _ _ _ _ _ _ _ _ _ _ _ _ _ _ _ _ _ _ _ _ _ _ _ _ _ _ _ _ _ _ _ _ _ _ _ _ _ _ _ _ _ _ _ _ _ _ _ _ _ _ _ _ _ _ _ _ _ _ _ _ _ _ _ _ _ _ _ _ _ _ _ _ _ _ _ _ _ _ _ _ _ _ _ _ _ _ _ _ _ _ _ _ _ _ _ _ _ _ _ _ _ _ _ _ _ _ _ _ _ _ _ _ _ _ _ _ _ _ _ _ _ _ _ _ _ _ _ _ _ _ _ _ _ _ _ _ _ _ _ _ _ _ _ _ _ _ _ _ _ _ _ _ _ _ _ _ _ _ _ _ _ _ _ _ _ _ _ _ _ _ _ _ _ _ _ _ _ _ _ _ _ _ _ _ _ _ _ _ _ _ _ _ _ _ _ _ _ _ _ _ _ _ _ _ _ _ _ _ _ _ _ _ _ _ _ _ _ _ _ _ _ _ _ _ _ _ _ _ _ _ _ _ _ _ _ _ _ _ _ _ _ _ _ _ _ _ _ _ _ _ _ _ _ _ _ _ _ _ _ _ _ _ _ _ _ _ _ _ _ _ _ _ _ _ _ _ _ _ _ _ _ _ _ _ _ _ _ _ _ _ _ _ _ _ _ _ _ _ _ _ _ _ _ _ _ _ _ _ _ _ _ _ _ _ _ _ _ _ _ _ _ _ _ _ _ _ _ _ _ _ _ _ _ _ _ _ _ _ _ _ _ _ _ _ _ _ _ _ _ _ _ _ _ _ _ _ _ _ _ _ _ _ _ _ _ _ _ _ _ _ _ _ _ _ _ _ _ _ _ _ _ _ _ _ _ _ _ _ _ _ _ _ _ _ _ _ _ _ _ _ _ _ _ _ _ _ _ _ _ _ _ _ _ _ _ _ _ _ _ _ _ _ _ _ _ _ _ _ _ _ _ _ _ _ _ _ _ _ _ _ _ _ _ _ _ _ _ _ _ _ _ _ _ _ _ _ _ _ _ _ _ _ _ _ _ _ _ HP hM (by omega) (by omega) HC ?q1 ?q2
    case q2 =>
      intro a13 a14 a83 a84 a85 a86 a87 a88 a89 a90 a91 a92 a93 a94 a95 a96 a97
      go_wp2_with fail
      go_ret
      exact ⟨rfl, rfl⟩
    case q1 =>
      intro a12 a13 a14 a83 a84 a85 a86 a87 a88 a89 a90 a91 a92 a93 a94 a95 a96 a97 HLEN
      clear HLEN HP HC
      by_cases c0 : N = M
      · have b0 : ((N : Int) != (M : Int)) = false := by rw [c0]; exact bne_self_eq_false _
        have hb : n < 1 ∨ 64 < n ∨ id < 0 ∨ n ≤ id ∨ input < 0 ∨ 1 < input ∨ last < 1 ∨ 65536 < last := by
          rcases HBAD.out with e | e
          · exact absurd c0 e
          · exact e
        clear c0
        by_cases c1 : n < 1
        · clear hb
          go_wp2_with fail
          go_ret
          exact ⟨rfl, rfl⟩
        by_cases c2 : 64 < n
        · clear hb
          go_wp2_with fail
          go_ret
          exact ⟨rfl, rfl⟩
        by_cases c3 : id < 0
        · clear hb
          go_wp2_with fail
          go_ret
          exact ⟨rfl, rfl⟩
        by_cases c4 : n ≤ id
        · clear hb
          go_wp2_with fail
          go_ret
          exact ⟨rfl, rfl⟩
        by_cases c5 : input < 0
        · clear hb
          go_wp2_with fail
          go_ret
          exact ⟨rfl, rfl⟩
        by_cases c6 : 1 < input
        · clear hb
          go_wp2_with fail
          go_ret
          exact ⟨rfl, rfl⟩
        by_cases c7 : last < 1
        · clear hb
          go_wp2_with fail
          go_ret
          exact ⟨rfl, rfl⟩
        have c8 : 65536 < last := by omega
        clear hb
        go_wp2_with fail
        go_ret
        exact ⟨rfl, rfl⟩
      · have b0 : ((N : Int) != (M : Int)) = true := bne_iff_ne.2 (by omega)
        clear c0
        go_wp2_with fail
        go_ret
        exact ⟨rfl, rfl⟩
end Go.Proofs.Qxb6613198aDoor
