import Derived.Test.Qxb6613198aDoorAdv
namespace Go.Proofs.Qxb6613198aDoor
open Go.ChangeShapes Go.WideShapes Go.ChangeAt Go.RowKit
open Plain
set_option linter.unusedVariables false

theorem info3 : (Tryd.prog.info? 3).map (fun i => (i.zero, i.size, i.bytes)) = some (some (.int .i64 0), 1, 8) := by kernel_rfl
theorem info34 : (Tryd.prog.info? 34).map (fun i => (i.zero, i.size, i.bytes)) = some (some (.int .u64 0), 1, 8) := by kernel_rfl
theorem info44 : (Tryd.prog.info? 44).map (fun i => (i.zero, i.size, i.bytes)) = some (some (.slice none 0 0), 1, 24) := by kernel_rfl

theorem made_one (z : Value) (hz : z.cells = #[z]) (n : Nat) : madeCells z.cells n = (List.replicate n z).toArray := by
  rw [hz]
  apply Array.ext
  · simp [madeCells]
  · intro i h1 h2
    simp [madeCells, Nat.mod_one]

theorem make22 (n : Nat) (hn : n ≤ 70000) (w : World) : (Instr.makeSlice 22 (.int .i64 n) (.int .i64 n)).run Tryd.prog w = .ok (.slice (some ⟨w.heap.size, 0, none⟩) n n) (w.alloc (.cells (ints (List.replicate n 0)) 3)) := by
  obtain ⟨i0, hi, hz0, hz1, hz2⟩ := info_parts info3
  have h := run_make (P := Tryd.prog) w 22 3 i0 (.int .i64 0) Tryd.underlying22 hi hz0 .i64 .i64 n n (by omega) (by omega) (by rw [hz2]; omega) (by omega)
  rw [made_one _ rfl, hz1, Int.toNat_natCast, Nat.mul_one] at h
  rw [h]
  simp [ints]

def evy (n : Nat) : Int := 18446744073709551615 / 2 ^ (64 - n)

theorem everyone_any (n : Nat) (h1 : 1 ≤ n) (h2 : n ≤ 64) (w : World) :
    Calls Tryd.prog 26 #[.int .i64 n] w fun e w' => e = .returned (.int .u64 (evy n)) ∧ w = w' := by
  go_enter Tryd.func26, Tryd.ntmps26
  go_wp2
  go_ret
  exact ⟨rfl, rfl⟩

set_option maxHeartbeats 400000 in
theorem zeroed_nil (n : Nat) (h1 : 1 ≤ n) (h2 : n ≤ 64) (w : World) :
    Calls Tryd.prog 25 #[.slice none 0 0, .int .i64 n] w fun e w' => e = .returned (.slice (some ⟨w.heap.size, 0, none⟩) n n) ∧ w' = w.alloc (.cells (ints (List.replicate n 0)) 3) := by
  have hm := make22 n (by omega)
  go_enter Tryd.func25, Tryd.ntmps25
  go_wp2
  go_ret
  exact ⟨rfl, rfl⟩

theorem setCells_rep (b : Nat) : ∀ (k o : Nat) (w : World) (l : List Int), Blk w b (ints l) 3 → o + k ≤ l.length →
    ∃ l', Blk (w.setCells b o (List.replicate k (.int .i64 0))) b (ints l') 3 ∧ l'.length = l.length ∧ (∀ j, l'[j]? = if o ≤ j ∧ j < o + k then some 0 else l[j]?) ∧ Keeps [b] w (w.setCells b o (List.replicate k (.int .i64 0)))
  | 0, o, w, l, h, _ => ⟨l, h, rfl, fun j => by rw [if_neg (by omega)], Keeps.refl _ _⟩
  | k + 1, o, w, l, h, hl => by
    have h1 := h.set o (.int .i64 0)
    rw [ints_set] at h1
    obtain ⟨l', a, b', c, d⟩ := setCells_rep b k (o + 1) (w.setCell ⟨b, o, none⟩ (.int .i64 0)) (l.set o 0) h1 (by simp; omega)
    refine ⟨l', a, by simpa using b', fun j => ?_, ((Keeps.refl [b] w).setCell (by simp) _).trans d⟩
    rw [c j, List.getElem?_set]
    by_cases e : o = j
    · subst e
      rw [if_neg (by omega), if_pos rfl, if_pos (by omega), if_pos (by omega)]
    · rw [if_neg e]
      by_cases q : o + 1 ≤ j ∧ j < o + 1 + k
      · rw [if_pos q, if_pos (by omega)]
      · rw [if_neg q, if_neg (by omega)]

theorem zero3 (w : World) : (zeroValue 3).run Tryd.prog w = .ok (.int .i64 0) w := by kernel_rfl

set_option maxHeartbeats 400000 in
theorem zeroed_again (n bc : Nat) (C : List Int) (h1 : 1 ≤ n) (h2 : n ≤ 64) (w : World) (hC : Blk w bc (ints C) 3) (lC : C.length = n) :
    Calls Tryd.prog 25 #[.slice (some ⟨bc, 0, none⟩) n n, .int .i64 n] w fun e w' => e = .returned (.slice (some ⟨bc, 0, none⟩) n n) ∧ Blk w' bc (ints (List.replicate n 0)) 3 ∧ Keeps [bc] w w' := by
  have hc := Lib.run_clear_slice (P := Tryd.prog) w 22 3 0 (.int .i64 0) Tryd.underlying22 zero3 rfl rfl bc 0 n n (by omega) (fun j hj => by rw [Nat.zero_add, hC.cell, ints_get _ _ (by omega)]; rfl) (fun j hj => hC.frozen _)
  obtain ⟨l', a, b', c, d⟩ := setCells_rep bc n 0 w C hC (by omega)
  have e : l' = List.replicate n 0 := by
    apply List.ext_getElem?
    intro j
    rw [c j, List.getElem?_replicate]
    by_cases q : j < n
    · rw [if_pos (by omega), if_pos q]
    · rw [if_neg (by omega), if_neg q, List.getElem?_eq_none (by omega)]
  rw [e] at a
  clear c b' hC lC e
  have A := hideIt a
  have D := hideIt d
  clear a d
  go_enter Tryd.func25, Tryd.ntmps25
  go_wp2
  go_ret
  exact ⟨rfl, A.out, D.out⟩
end Go.Proofs.Qxb6613198aDoor
