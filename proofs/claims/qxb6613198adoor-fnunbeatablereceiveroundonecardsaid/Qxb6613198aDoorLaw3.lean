import Derived.Test.Qxb6613198aDoorMain
import Derived.Test.Qxb6613198aDoorOut
namespace Go.Proofs.Qxb6613198aDoor
open Go.ChangeShapes Go.WideShapes Go.ChangeAt Go.RowKit
open Plain
set_option linter.unusedVariables false

theorem dec_ex (now z y : Bool) (input : Int) : ∃ d v r, Dec now z y input d v r := by
  cases now with
  | true => exact ⟨true, input, 0, Or.inl ⟨rfl, rfl, rfl, rfl⟩⟩
  | false =>
    cases z with
    | true => exact ⟨true, 0, 1, Or.inr (Or.inl ⟨rfl, rfl, rfl, rfl, rfl⟩)⟩
    | false =>
      cases y with
      | true => exact ⟨true, 1, 1, Or.inr (Or.inr (Or.inl ⟨rfl, rfl, rfl, rfl, rfl, rfl⟩))⟩
      | false => exact ⟨false, 0, 0, Or.inr (Or.inr (Or.inr ⟨rfl, rfl, rfl, rfl, rfl, rfl⟩))⟩

/-- The law (function 3), of every input. -/
theorem law3_any (w : World) (id n input last : Int) (fo po : Option Addr) (N M fc pc : Nat) (F : Nat → Int) (pa : Nat → Option Addr) (pl pcap : Nat → Nat) (Lb : Nat → List UInt8)
    (hF : ∀ i, i < N → ∃ g o, fo = some ⟨g, o, none⟩ ∧ w.cell? ⟨g, o + i, none⟩ = some (.int .i64 (F i)))
    (hP : ∀ i, i < M → ∃ g o, po = some ⟨g, o, none⟩ ∧ w.cell? ⟨g, o + i, none⟩ = some (.slice (pa i) (pl i) (pcap i)))
    (hB : ∀ i, i < M → BytB w.heap.size w (.slice (pa i) (pl i) (pcap i)) (Lb i) ∧ (Lb i).length = pl i)
    (hbig : N ≤ 9223372036854775807 ∧ M ≤ 9223372036854775807) (hT : TabAt 0 Lib.deBruijn64tab w) (h0 : 0 < w.heap.size) :
    Calls Tryd.prog 3 #[.int .i64 id, .int .i64 n, .int .i64 input, .int .i64 last, .slice fo N fc, .slice po M pc] w fun e w' => e = .returned (.bool true) ∧ Below w.heap.size w w' := by
  have hz := zz_any w id n input last fo po N fc M pc pa pl pcap hP
  by_cases he : 65536 < N ∨ 65536 < M ∨ 1048576 < 8 * N + 24 * M
  · refine (law3_early w id n input last fo po N M fc pc (hz.mono fun e w' h => ⟨h.1.b, h.2⟩) hbig he).mono ?_
    rintro e w' ⟨h1, rfl⟩
    exact ⟨h1, Below.refl _ _⟩
  by_cases hb : N ≠ M ∨ n < 1 ∨ 64 < n ∨ id < 0 ∨ n ≤ id ∨ input < 0 ∨ 1 < input ∨ last < 1 ∨ 65536 < last
  · refine (law3_out w id n input last fo po N M fc pc pa pl pcap hz hP (by omega) (by omega) (by omega) hb).mono ?_
    rintro e w' ⟨h1, rfl⟩
    exact ⟨h1, Below.refl _ _⟩
  obtain rfl : N = M := by omega
  obtain ⟨id, rfl⟩ := Int.eq_ofNat_of_zero_le (a := id) (by omega)
  obtain ⟨n, rfl⟩ := Int.eq_ofNat_of_zero_le (a := n) (by omega)
  obtain ⟨lr, rfl⟩ := Int.eq_ofNat_of_zero_le (a := last) (by omega)
  obtain ⟨ms, hms⟩ : ∃ ms : List Msg, ms = (List.range N).map fun i => ⟨F i, id, .slice (pa i) (pl i) (pcap i), Lb i⟩ := ⟨_, rfl⟩
  have hl : ms.length = N := by rw [hms]; simp
  have hg : ∀ i (hi : i < ms.length), ms[i] = ⟨F i, id, .slice (pa i) (pl i) (pcap i), Lb i⟩ := by
    intro i hi
    subst hms
    simp
  obtain ⟨s, hs⟩ : ∃ s, s = foldM n (s1 n id input) ms := ⟨_, rfl⟩
  have ok : SOk n id s := by rw [hs]; exact SOk.fold (by omega) (by omega) ms _ (s1_ok n id input (by omega))
  obtain ⟨h, hh⟩ := ok.h
  obtain ⟨now, hnow⟩ : ∃ now : Bool, (now = true ∧ (input = 0 ∨ n = 1)) ∨ (now = false ∧ input = 1 ∧ 2 ≤ n) := by
    by_cases c : input = 0 ∨ n = 1
    · exact ⟨true, Or.inl ⟨rfl, c⟩⟩
    · exact ⟨false, Or.inr ⟨rfl, by omega, by omega⟩⟩
  obtain ⟨d, v, r, hd⟩ := dec_ex now (holdsB s.L s.I n) (allB s.L n || alone h id) input
  refine law3_in w id n lr N fc pc h input fo po pa pl pcap ms now s d v r hz hP ?_ ?_ (by omega) (by omega) (by omega) (by omega) (by omega) (by omega) (by omega) (by omega) hnow hT h0 hs hh hd
  · intro hlen
    refine ⟨hl, fun i hi => ?_, fun i hi => ?_, fun i hi => ?_⟩
    · obtain ⟨g, o, h1, h2⟩ := hF i (by omega)
      exact ⟨g, o, h1, World.block_lt_of_cell? _ _ h2, by rw [hg i hi]; exact h2⟩
    · obtain ⟨g, o, h1, h2⟩ := hP i (by omega)
      exact ⟨g, o, h1, World.block_lt_of_cell? _ _ h2, by rw [hg i hi]; exact h2⟩
    · have := hB i (by omega)
      have q := hlen i (by omega)
      rw [hg i hi]
      exact ⟨this.1, by show (Lb i).length ≤ _; omega⟩
  · intro i hi
    rw [hg i hi]
end Go.Proofs.Qxb6613198aDoor
