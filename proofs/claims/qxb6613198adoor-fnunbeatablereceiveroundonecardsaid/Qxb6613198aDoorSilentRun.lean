import Derived.Test.Qxb6613198aDoorLaw4
import Derived.Lib.LaidTab
import Derived.LaidMore
import Derived.Stop.Joined
namespace Go.Proofs.Qxb6613198aDoor
open Go.ChangeShapes Go.WideShapes Go.ChangeAt Go.WideMaps Go.WideElems Go.RowKit
open Plain

/-! ### WHAT THE LISTED TABLE GIVES -/
theorem own : ownKnob Tryd.prog.godebug = none := by kernel_rfl
theorem gTab : Tryd.prog.globalNamed "math/bits.deBruijn64tab" = some 0 := by kernel_rfl
theorem gTabType : (Tryd.prog.globals[0]?).map (·.type) = some 78 := by kernel_rfl

/-- The row's list. -/
def laid1 : List (String × DataW Unit) := [("math/bits.deBruijn64tab", Rows.laid_math_bits_deBruijn64tab)]

theorem tab_data : (Rows.laid_math_bits_deBruijn64tab : DataW Unit) = Lib.tabData .u8 (Lib.deBruijn64tab.map fun (n : Nat) => (n : Int)) := rfl

theorem tab_of_laid {W : World} (h : laidMetH Tryd.prog laid1 W) : TabAt 0 Lib.deBruijn64tab W := by
  rw [MakeChecks.laidMetH_plain _ _ _ (by kernel_rfl)] at h
  have hT : Lib.TabIs Tryd.prog W "math/bits.deBruijn64tab" .u8 (Lib.deBruijn64tab.map fun (n : Nat) => (n : Int)) :=
    Lib.tabIs_of_head (rest := []) gTab gTabType Tryd.underlying78 Tryd.underlying5 (by kernel_rfl) (by kernel_rfl) h
  intro j hj
  have := hT.cell gTab j (by simpa using hj)
  rw [this]
  simp [List.getD, List.getElem?_eq_getElem hj]

theorem size_of_tab {W : World} (h : TabAt 0 Lib.deBruijn64tab W) : 0 < W.heap.size := by
  have := h 0 (by decide)
  unfold World.cell? at this
  rcases Nat.lt_or_ge 0 W.heap.size with h' | h'
  · exact h'
  · simp only [Array.getElem?_eq_none h'] at this
    cases this

/-- The door's own heap meets the condition. -/
theorem door_met (os : Os) (args : Array Value) : laidMetH Tryd.prog laid1 ((World.doorLaid Tryd.prog 14 os).forCall (fun _ _ => 0) ⟨#[], args, []⟩).memory :=
  laidMetH_of_parts3 (fuel := 8) (laidMet_of_run' 8 (by kernel_rfl) (by kernel_rfl)) (by kernel_rfl) (by kernel_rfl)

/-! ### THE LAW, OF EVERY FOUR NUMBERS -/
theorem silent_any (id n input last : Int) (w : World) (hT : TabAt 0 Lib.deBruijn64tab w) :
    Calls Tryd.prog 4 #[.int .i64 id, .int .i64 n, .int .i64 input, .int .i64 last] w fun e w' => e = .returned (.bool true) ∧ Below w.heap.size w w' := by
  by_cases h : n < 1 ∨ 64 < n ∨ id < 0 ∨ n ≤ id ∨ input < 0 ∨ 1 < input ∨ last < 1 ∨ 65536 < last
  · refine (silent_out id n input last w h).mono fun e w' ⟨he, hw⟩ => ⟨he, ?_⟩
    subst hw
    exact Below.refl _ _
  obtain ⟨id, rfl⟩ := Int.eq_ofNat_of_zero_le (a := id) (by omega)
  obtain ⟨n, rfl⟩ := Int.eq_ofNat_of_zero_le (a := n) (by omega)
  obtain ⟨lr, rfl⟩ := Int.eq_ofNat_of_zero_le (a := last) (by omega)
  have h0 := size_of_tab hT
  rcases (show input = 0 ∨ (input = 1 ∧ n = 1) ∨ (input = 1 ∧ 2 ≤ n) by omega) with rfl | ⟨rfl, rfl⟩ | ⟨rfl, h2⟩
  · exact silent_main w id n lr 0 true 0 (by omega) (by omega) (by omega) (by omega) (by omega) (Or.inl rfl) (Or.inl ⟨rfl, Or.inl rfl⟩) h0 hT (Or.inl ⟨rfl, rfl⟩)
      (fun t ht => ⟨rfl, rfl⟩)
  · exact silent_main w id 1 lr 1 true 0 (by omega) (by omega) (by omega) (by omega) (by omega) (Or.inr rfl) (Or.inl ⟨rfl, Or.inr rfl⟩) h0 hT (Or.inr (Or.inl ⟨rfl, rfl, rfl⟩))
      (fun t ht => ⟨rfl, rfl⟩)
  · exact silent_main w id n lr 1 false 1 (by omega) (by omega) (by omega) (by omega) (by omega) (Or.inr rfl) (Or.inr ⟨rfl, rfl, h2⟩) h0 hT (Or.inr (Or.inr ⟨rfl, beq_eq_false_iff_ne.2 (by omega), rfl⟩))
      (fun t ht => by
        have h : t ≠ 0 := by omega
        simp [valOf, rndOf, h])

namespace fnUnbeatableReceiveSilentRun
set_option maxRecDepth 100000 in
theorem lifted (os : Os) (started : os.Started) (H : Type) (enc : TypeId × Value → H) :
    ReturnsInHanded {} Tryd.checked os 4 .any (fun w args => (Rows.fnUnbeatableReceiveSilentRunSpec.pre enc Tryd.prog Tryd.f4 [] false w args ∧ laidMetH Tryd.prog laid1 w) ∧ sizedMet enc Tryd.prog Tryd.f4 (OpenSpec.ofChange Rows.fnUnbeatableReceiveSilentRunSpec) false w args)
      (Rows.fnUnbeatableReceiveSilentRunSpec.post enc Tryd.prog Tryd.f4 false true false false) := by
  refine returnsInHanded_of_change_and (C := Tryd.checked) (X := fun w _ => laidMetH Tryd.prog laid1 w) (fun _ _ _ hh h => h.of_heap hh) own started (by kernel_rfl) Tryd.func4
    (ChangeSpec.witness_shaped (enc := enc) (C := Tryd.checked) (os := os) (X := fun w _ => laidMetH Tryd.prog laid1 w) false (World.doorLaid Tryd.prog 14 os) #[.int .i64 0, .int .i64 0, .int .i64 0, .int .i64 0] 8 rfl (World.shaped_of_RefB (by kernel_rfl) (by kernel_rfl)) (by kernel_rfl) (by kernel_rfl) (by kernel_rfl) (door_met os _)) ?_
  intro W base args ds gs before hval0 hW _ _ hL _
  have hval : ∀ (j : Nat) t v, Tryd.f4.params[j]? = some t → args[j]? = some v → Value.okWide Tryd.prog W .any base t v := hval0
  have hW' := hW
  obtain ⟨p, q, hA0, hV, rfl, hfz, hnd⟩ := hW
  have hA : DataW.TrodAll enc Tryd.prog W 0 (fun _ => true) true Tryd.f4.params.toList args.toList ds p := hA0
  rw [Tryd.params4] at hA hval
  obtain ⟨v0, vs0, d0, ds0, p0, q0, hargs, rfl, rfl, h0, r0⟩ := trodAll_cons hA
  obtain ⟨v1, vs1, d1, ds1, p1, q1, rfl, rfl, rfl, h1, r1⟩ := trodAll_cons r0
  obtain ⟨v2, vs2, d2, ds2, p2, q2, rfl, rfl, rfl, h2, r2⟩ := trodAll_cons r1
  obtain ⟨v3, vs3, d3, ds3, p3, q3, rfl, rfl, rfl, h3, r3⟩ := trodAll_cons r2
  obtain ⟨rfl, rfl, rfl⟩ := trodAll_nil r3
  obtain rfl : args = #[v0, v1, v2, v3] := by cases args; simp_all
  obtain ⟨rfl, rfl⟩ := trodVars_none hV
  obtain ⟨a0, rfl, rfl, rfl, w0⟩ := open_int Tryd.underlying3 (hval 0 3 v0 rfl rfl) h0
  obtain ⟨a1, rfl, rfl, rfl, w1⟩ := open_int Tryd.underlying3 (hval 1 3 v1 rfl rfl) h1
  obtain ⟨a2, rfl, rfl, rfl, w2⟩ := open_int Tryd.underlying3 (hval 2 3 v2 rfl rfl) h2
  obtain ⟨a3, rfl, rfl, rfl, w3⟩ := open_int Tryd.underlying3 (hval 3 3 v3 rfl rfl) h3
  have hT := tab_of_laid hL
  clear hA0 hval0 hL
  simp only [List.append_nil] at hW'
  refine (silent_any a0 a1 a2 a3 W hT).mono fun e W' ⟨he, hb⟩ => ?_
  subst he
  exact ⟨_, rfl, ⟨_, _, _, [], [], [], hW', trodAll_cons_mk (shut_bool Tryd.underlying4 _) trodAll_mk0,
    trodAll_cons_mk (shut_int Tryd.underlying3 w0) (trodAll_cons_mk (shut_int Tryd.underlying3 w1) (trodAll_cons_mk (shut_int Tryd.underlying3 w2) (trodAll_cons_mk (shut_int Tryd.underlying3 w3) trodAll_mk0))),
    rfl, hb.frame _, fun h => by cases h⟩⟩

theorem over : Rows.FnUnbeatableReceiveSilentRunSaid :=
  OpenClaim.holds_of_wide 4 Tryd.f4 rfl rfl rfl rfl rfl rfl rfl ⟨rfl, rfl, rfl, rfl, rfl⟩ rfl rfl rfl rfl rfl (by kernel_rfl) Tryd.func4 (by kernel_rfl)
    (of_decide_eq_true (by kernel_rfl)) (by unfold Func.isWrapper; first | (rw [if_pos (by decide +kernel)]; kernel_rfl) | (rw [if_neg (by decide +kernel)]; exact ⟨rfl, rfl⟩))
    (fun os started H enc _ => lifted os started H enc)
end fnUnbeatableReceiveSilentRun
end Go.Proofs.Qxb6613198aDoor
