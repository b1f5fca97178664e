import Derived.Test.Qxb6613198aDoorLaw3
import Derived.Test.Qxb6613198aDoorSilentRun
import Derived.Deep.Matrix
import Derived.Carry
namespace Go.Proofs.Qxb6613198aDoor
open Go.ChangeShapes Go.WideShapes Go.ChangeAt Go.WideMaps Go.WideElems Go.RowKit
open Plain

theorem laidOut : laidOutB Tryd.prog = true := by kernel_rfl
theorem cells3 : Tryd.prog.cellsOf 3 = 1 := by kernel_rfl
theorem cells5 : Tryd.prog.cellsOf 5 = 1 := by kernel_rfl
theorem cells25 : Tryd.prog.cellsOf 25 = 1 := by kernel_rfl
theorem und22 : Tryd.prog.underlying 22 = some (.slice 3) := by kernel_rfl
theorem und23 : Tryd.prog.underlying 23 = some (.slice 25) := by kernel_rfl
theorem und25 : Tryd.prog.underlying 25 = some (.slice 5) := by kernel_rfl
theorem und5 : Tryd.prog.underlying 5 = some (.int .u8) := by kernel_rfl

/-- A row of bytes, as the opened argument gives it. -/
def bytesOf' (Z : List Int) (L : Nat) : List UInt8 := (List.range L).map fun c => UInt8.ofNat (Z.getD c 0).toNat
theorem bytes_row {W : World} {A : Option Addr} {L C : Nat} {Z : List Int} (hL : L ≤ C) (hZ : Z.length = C) (hw : ∀ n ∈ Z, (Lit.int .u8 n).wf = true) (hA : A = none → C = 0) (hcell : ∀ a', A = some a' → ∀ c, c < C → W.cell? (a'.add c) = some (.int .u8 (Z.getD c 0))) :
    BytB W.heap.size W (.slice A L C) (bytesOf' Z L) ∧ (bytesOf' Z L).length = L := by
  have hlen : (bytesOf' Z L).length = L := by simp [bytesOf']
  refine ⟨?_, hlen⟩
  by_cases hL0 : L = 0
  · subst hL0
    exact Or.inr ⟨by simp [bytesOf'], A, C, rfl⟩
  cases A with
  | none => have := hA rfl; omega
  | some a =>
    obtain ⟨g, o, spot⟩ := a
    have h0 := hcell _ rfl 0 (by omega)
    have hspot : spot = none := by simpa [Addr.add] using World.cell?_spot h0
    subst hspot
    have hc : ∀ c, c < C → W.cell? ⟨g, o + c, none⟩ = some (.int .u8 (Z.getD c 0)) := fun c hc => by rw [← add_plain]; exact hcell _ rfl c hc
    refine Or.inl ⟨g, o, C, by rw [hlen], World.block_lt_of_cell? _ _ (hc 0 (by omega)), by rw [hlen]; exact hL, fun j hj => ?_⟩
    rw [hlen] at hj
    rw [hc j (by omega)]
    have hb := range_u8 hw j
    have e : ((UInt8.ofNat (Z.getD j 0).toNat).toNat : Int) = Z.getD j 0 := by
      have : (Z.getD j 0) = Z[j]?.getD 0 := by simp [List.getD]
      rw [this]
      rw [UInt8.toNat_ofNat']
      omega
    simp only [bytesOf', List.getElem_map, List.getElem_range]
    rw [e]

namespace fnUnbeatableReceiveRoundOne
set_option maxRecDepth 100000 in
theorem lifted (os : Os) (started : os.Started) (H : Type) (enc : TypeId × Value → H) :
    ReturnsInHanded {} Tryd.checked os 3 .any (fun w args => (Rows.fnUnbeatableReceiveRoundOneSpec.pre enc Tryd.prog Tryd.f3 [] false w args ∧ laidMetH Tryd.prog laid1 w) ∧ sizedMet enc Tryd.prog Tryd.f3 (OpenSpec.ofChange Rows.fnUnbeatableReceiveRoundOneSpec) false w args)
      (Rows.fnUnbeatableReceiveRoundOneSpec.post enc Tryd.prog Tryd.f3 false true false false) := by
  refine returnsInHanded_of_change_and (C := Tryd.checked) (X := fun w _ => laidMetH Tryd.prog laid1 w) (fun _ _ _ hh h => h.of_heap hh) own started (by kernel_rfl) Tryd.func3
    (ChangeSpec.witness_shaped (enc := enc) (C := Tryd.checked) (os := os) (X := fun w _ => laidMetH Tryd.prog laid1 w) false (World.doorLaid Tryd.prog 14 os) #[.int .i64 0, .int .i64 0, .int .i64 0, .int .i64 0, .slice none 0 0, .slice none 0 0] 8 rfl (World.shaped_of_RefB (by kernel_rfl) (by kernel_rfl)) (by kernel_rfl) (by kernel_rfl) (by kernel_rfl) (door_met os _)) ?_
  intro W base args ds gs before hval0 hW _ _ hL _
  have hval : ∀ (j : Nat) t v, Tryd.f3.params[j]? = some t → args[j]? = some v → Value.okWide Tryd.prog W .any base t v := hval0
  have hW' := hW
  obtain ⟨p, q, hA0, hV, rfl, hfz, hnd⟩ := hW
  have hA : DataW.TrodAll enc Tryd.prog W 0 (fun _ => true) true Tryd.f3.params.toList args.toList ds p := hA0
  rw [Tryd.params3] at hA hval
  obtain ⟨v0, vs0, d0, ds0, p0, q0, hargs, rfl, rfl, h0, r0⟩ := trodAll_cons hA
  obtain ⟨v1, vs1, d1, ds1, p1, q1, rfl, rfl, rfl, h1, r1⟩ := trodAll_cons r0
  obtain ⟨v2, vs2, d2, ds2, p2, q2, rfl, rfl, rfl, h2, r2⟩ := trodAll_cons r1
  obtain ⟨v3, vs3, d3, ds3, p3, q3, rfl, rfl, rfl, h3, r3⟩ := trodAll_cons r2
  obtain ⟨v4, vs4, d4, ds4, p4, q4, rfl, rfl, rfl, h4, r4⟩ := trodAll_cons r3
  obtain ⟨v5, vs5, d5, ds5, p5, q5, rfl, rfl, rfl, h5, r5⟩ := trodAll_cons r4
  obtain ⟨rfl, rfl, rfl⟩ := trodAll_nil r5
  obtain rfl : args = #[v0, v1, v2, v3, v4, v5] := by cases args; simp_all
  obtain ⟨rfl, rfl⟩ := trodVars_none hV
  obtain ⟨a0, rfl, rfl, rfl, w0⟩ := open_int Tryd.underlying3 (hval 0 3 v0 rfl rfl) h0
  obtain ⟨a1, rfl, rfl, rfl, w1⟩ := open_int Tryd.underlying3 (hval 1 3 v1 rfl rfl) h1
  obtain ⟨a2, rfl, rfl, rfl, w2⟩ := open_int Tryd.underlying3 (hval 2 3 v2 rfl rfl) h2
  obtain ⟨a3, rfl, rfl, rfl, w3⟩ := open_int Tryd.underlying3 (hval 3 3 v3 rfl rfl) h3
  obtain ⟨fo, N, fc, rfl⟩ := okWide_slice und22 (hval 4 22 v4 rfl rfl)
  obtain ⟨po, M, pc, rfl⟩ := okWide_slice und23 (hval 5 23 v5 rfl rfl)
  have hT := tab_of_laid hL
  have hs0 := size_of_tab hT
  have hlt : ∀ x ∈ p4 ++ p5, x.block < W.heap.size := fun x hx => hW'.lt x (by simp at hx ⊢; exact hx)
  simp only [List.append_nil] at hW'
  have h4k := h4
  have h5k := h5
  obtain ⟨fuel4, hf4⟩ := h4
  obtain ⟨fuel5, hf5⟩ := h5
  have hFR : ∃ F : Nat → Int, (∀ i, i < N → ∃ g o, fo = some ⟨g, o, none⟩ ∧ W.cell? ⟨g, o + i, none⟩ = some (.int .i64 (F i))) ∧ N ≤ 9223372036854775807 := by
    rcases open_ints und22 Tryd.underlying3 cells3 hf4 with ⟨hcs, hx⟩ | ⟨a, len, cap, zs, hcs, _, hl, hm, hz, hx, hcell, hwz⟩
    · simp [Value.cells] at hcs
      obtain ⟨rfl, rfl, rfl⟩ := hcs
      exact ⟨fun _ => 0, fun i hi => by omega, by omega⟩
    · simp [Value.cells] at hcs
      obtain ⟨rfl, rfl, rfl⟩ := hcs
      simp only [if_true] at hz
      refine ⟨fun i => zs.getD i 0, fun i hi => ?_, by have : maxLen = 9223372036854775807 := rfl; omega⟩
      obtain ⟨b, off, rfl, hc⟩ := ints_at hcell (by omega)
      exact ⟨b, off, rfl, hc i (by omega)⟩
  have hPR : ∃ (pa : Nat → Option Addr) (pl pcap : Nat → Nat) (Lb : Nat → List UInt8), (∀ i, i < M → ∃ g o, po = some ⟨g, o, none⟩ ∧ W.cell? ⟨g, o + i, none⟩ = some (.slice (pa i) (pl i) (pcap i))) ∧ (∀ i, i < M → BytB W.heap.size W (.slice (pa i) (pl i) (pcap i)) (Lb i) ∧ (Lb i).length = pl i) ∧ M ≤ 9223372036854775807 := by
    rcases Deep.open_int_rows und23 und25 und5 cells25 cells5 hf5 with ⟨hcs, hx⟩ | ⟨a, len, cap, A, L, C, Z, hcs, _, hl, hm, hx, hrows⟩
    · simp [Value.cells] at hcs
      obtain ⟨rfl, rfl, rfl⟩ := hcs
      exact ⟨fun _ => none, fun _ => 0, fun _ => 0, fun _ => [], fun i hi => by omega, fun i hi => by omega, by omega⟩
    · simp [Value.cells] at hcs
      obtain ⟨rfl, rfl, rfl⟩ := hcs
      refine ⟨A, L, C, fun i => bytesOf' (Z i) (L i), fun i hi => ?_, fun i hi => ?_, by have : maxLen = 9223372036854775807 := rfl; omega⟩
      · obtain ⟨bm, om, spot⟩ := a
        have hspot : spot = none := by simpa [Addr.add] using World.cell?_spot (hrows 0 (by omega)).1
        subst hspot
        exact ⟨bm, om, rfl, by rw [← add_plain]; exact (hrows i (by omega)).1⟩
      · obtain ⟨_, r1, r2, r3, r4, r5, r6⟩ := hrows i (by omega)
        exact bytes_row r1 r3 r4 r5 (fun a' ha' => (r6 a' ha').2)
  obtain ⟨F, hF, hN⟩ := hFR
  obtain ⟨pa, pl, pcap, Lb, hP, hB, hM⟩ := hPR
  clear hA0 hval0 hL
  refine (law3_any W a0 a1 a2 a3 fo po N M fc pc F pa pl pcap Lb hF hP hB ⟨hN, hM⟩ hT hs0).mono fun e W' ⟨he, hb⟩ => ?_
  subst he
  exact ⟨_, rfl, ⟨_, _, _, [], _, [], hW', trodAll_cons_mk (shut_bool Tryd.underlying4 _) trodAll_mk0,
    trodAll_cons_mk (shut_int Tryd.underlying3 w0) (trodAll_cons_mk (shut_int Tryd.underlying3 w1) (trodAll_cons_mk (shut_int Tryd.underlying3 w2) (trodAll_cons_mk (shut_int Tryd.underlying3 w3) (trodAll_cons_mk (Below.trod laidOut (by kernel_rfl) (of_decide_eq_true (by kernel_rfl)) h4k hb (fun x hx => hlt x (by simp [hx]))) (trodAll_cons_mk (Below.trod laidOut (by kernel_rfl) (of_decide_eq_true (by kernel_rfl)) h5k hb (fun x hx => hlt x (by simp [hx]))) trodAll_mk0))))),
    rfl, hb.frame _, fun h => by cases h⟩⟩

theorem over : Rows.FnUnbeatableReceiveRoundOneSaid :=
  OpenClaim.holds_of_wide 3 Tryd.f3 rfl rfl rfl rfl rfl rfl rfl ⟨rfl, rfl, rfl, rfl, rfl⟩ rfl rfl rfl rfl rfl (by kernel_rfl) Tryd.func3 (by kernel_rfl)
    (of_decide_eq_true (by kernel_rfl)) (by unfold Func.isWrapper; first | (rw [if_pos (by decide +kernel)]; kernel_rfl) | (rw [if_neg (by decide +kernel)]; exact ⟨rfl, rfl⟩))
    (fun os started H enc _ => lifted os started H enc)
end fnUnbeatableReceiveRoundOne
end Go.Proofs.Qxb6613198aDoor
