import Derived.Test.Qxb6614045aAllOf
namespace Go.Proofs.Qxb6614045a
open Go.ChangeShapes Go.WideShapes Go.ChangeAt Go.RowKit
open Go.ChangeMaps (setBlock heap_setBlock_same heap_setBlock_other)

def D3 : ByteArray := ⟨#[116, 104, 101, 32, 110, 97, 109, 101, 100, 32, 115, 99, 104, 101, 109, 97]⟩

/-- A map of one entry, laid in new memory, and what the look-ups then answer. -/
theorem one_put (V : World) (k : ByteArray) (t : Value) :
    ∃ W, (Instr.mapUpdate 29 (.map (some V.heap.size)) (.string k) t).run Try.prog (V.alloc (.map #[] 0)) = .ok () W ∧ Below V.heap.size V W ∧ W.heap.size = V.heap.size + 1 ∧
      ∀ n : ByteArray, (Instr.lookup 29 (.map (some V.heap.size)) (.string n) false).run Try.prog W = .ok (if n = k then t else .pointer none) W := by
  have hb : (V.alloc (.map #[] 0)).heap[V.heap.size]? = some (.map #[] 0) := (MapKept.heap_alloc V (.map #[] 0)).1
  have r1 := run_upd_push (P := Try.prog) (mty := 29) Try.underlying29 Try.underlying9 hb k t rfl
  have hW : (setBlock (V.alloc (.map #[] 0)) V.heap.size (.map (#[].push { key := .string k, val := t, born := 0 }) (0 + 1))).heap[V.heap.size]? = some (.map #[{ key := .string k, val := t, born := 0 }] 1) := set_block _ (by simp)
  refine ⟨_, r1, ((Below.refl _ _).alloc (Nat.le_refl _) _).trans (below_setBlock _), by rw [size_setBlock]; simp, fun n => ?_⟩
  by_cases e : n = k
  · subst e
    have hs : (n == n) = true := (MapKept.bytes_beq n n).2 rfl
    rw [if_pos rfl]
    exact run_look (P := Try.prog) (mty := 29) Try.underlying29 Try.underlying9 hW n (some (0, t)) _ (zero23 _) (by simp [Instr.findNow, Instr.sameNow, hs])
  · rw [if_neg e]
    exact run_look (P := Try.prog) (mty := 29) Try.underlying29 Try.underlying9 hW n none _ (zero23 _) (by simp [Instr.findNow, Instr.sameNow, bytes_ne e])

theorem three (w : World) (r : ByteArray) : ∀ W3, W3 = ((w.alloc (.cells (descCells D3) 28)).alloc (.cells (refCells r) 28)).alloc (.cells (refCells r) 28) →
    (∀ j, W3.cell? ⟨w.heap.size + 1, j, none⟩ = (refCells r)[j]?) ∧ (∀ j, W3.cell? ⟨w.heap.size + 1 + 1, j, none⟩ = (refCells r)[j]?) ∧ Below w.heap.size w W3 ∧ W3.heap.size = w.heap.size + 3 ∧
    (binOp .eql 23 (.pointer (some ⟨w.heap.size + 1, 0, none⟩)) (.pointer (some ⟨w.heap.size + 1 + 1, 0, none⟩))).run Try.prog W3 = .ok (.bool false) W3 := by
  rintro W3 rfl
  refine ⟨fun j => ?_, fun j => ?_, ?_, by simp, ?_⟩
  · rw [World.cell?_alloc_past _ _ _ (by simp), World.cell?_alloc_at _ _ _ _ (by simp)]
  · rw [World.cell?_alloc_at _ _ _ _ (by simp)]
  · exact (((Below.refl w.heap.size w).alloc (Nat.le_refl _) _).alloc (by simp) _).alloc (by simp; omega) _
  · obtain ⟨i, hi, hsz⟩ := info28
    have e1 : (((w.alloc (.cells (descCells D3) 28)).alloc (.cells (refCells r) 28)).alloc (.cells (refCells r) 28)).heap[w.heap.size + 1]? = some (.cells (refCells r) 28) := by
      rw [Below.heap_alloc _ _ _ (by simp)]
      have := (MapKept.heap_alloc (w.alloc (.cells (descCells D3) 28)) (.cells (refCells r) 28)).1
      simpa using this
    have e2 : (((w.alloc (.cells (descCells D3) 28)).alloc (.cells (refCells r) 28)).alloc (.cells (refCells r) 28)).heap[w.heap.size + 1 + 1]? = some (.cells (refCells r) 28) := by
      have := (MapKept.heap_alloc ((w.alloc (.cells (descCells D3) 28)).alloc (.cells (refCells r) 28)) (.cells (refCells r) 28)).1
      simpa using this
    exact run_eql_ptr_other _ Try.underlying23 hi hsz (by intro h; injection h with h; omega) e1 e2

theorem pfx_lit (n : ByteArray) : ((PFX ++ n).toList == ((⟨#[35, 47, 99, 111, 109, 112, 111, 110, 101, 110, 116, 115, 47, 115, 99, 104, 101, 109, 97, 115, 47]⟩ : ByteArray) ++ n).toList) = true := by
  simp [PFX]

set_option maxHeartbeats 400000 in
theorem res_long (a b : ByteArray) (w : World) (hl : (65536 : Int) < a.size ∨ (65536 : Int) < b.size) :
    Calls Try.prog 5 #[.string a, .string b] w fun e w' => e = .returned (.bool true) ∧ w = w' := by
  by_cases c1 : (65536 : Int) < a.size
  · go_enter Try.func5, Try.ntmps5
    go_wp2_with (go_at_call 11; refine (bytes11 _ _ _).mono ?_; rintro e w' ⟨r, rfl, rfl⟩)
    all_goals (go_ret; exact ⟨rfl, rfl⟩)
  have c2 : (65536 : Int) < b.size := by omega
  go_enter Try.func5, Try.ntmps5
  go_wp2_with (go_at_call 11; refine (bytes11 _ _ _).mono ?_; rintro e w' ⟨r, rfl, rfl⟩)
  all_goals (go_ret; exact ⟨rfl, rfl⟩)

set_option maxHeartbeats 1000000 in
theorem res_main (name other : ByteArray) (w : World) (h1 : ¬ (65536 : Int) < name.size) (h2 : ¬ (65536 : Int) < other.size) :
    Calls Try.prog 5 #[.string name, .string other] w fun e w' => e = .returned (.bool true) ∧ Below w.heap.size w w' := by
  have hneq := neq23
  have hmm := @run_makeMap Try.prog
  have hpl := pfx_lit name
  go_enter Try.func5, Try.ntmps5
  go_wp2_with fail
  refine (bytes11 _ _ _).mono ?_
  rintro e w' ⟨r, rfl, rfl⟩
  cases r
  · go_wp2
    go_ret
    exact ⟨rfl, Below.refl _ _⟩
  · go_wp2_with fail
    refine (ref_any _ (by omega) _).mono ?_
    rintro e w' ⟨rfl, rfl⟩
    go_wp2_with fail
    refine (ref_any _ (by omega) _).mono ?_
    rintro e w' ⟨rfl, rfl⟩
    obtain ⟨W3, hW3⟩ : ∃ W3, W3 = ((w.alloc (.cells (descCells D3) 28)).alloc (.cells (refCells (PFX ++ name)) 28)).alloc (.cells (refCells (PFX ++ name)) 28) := ⟨_, rfl⟩
    obtain ⟨f1, f2, f3, f4, f5⟩ := three w (PFX ++ name) W3 hW3
    simp only [descCells, D3] at hW3
    rw [← hW3]
    have F1 : Hid _ := f1
    have F2 : Hid _ := f2
    have F4 : Hid _ := f4
    clear hW3 f1 f2 f4
    go_wp2_with fail
    refine (only_any _ _ _ F1.out).mono ?_
    rintro e w' ⟨rfl, rfl⟩
    go_wp2_with fail
    refine (only_any _ _ _ F2.out).mono ?_
    rintro e w' ⟨rfl, rfl⟩
    have g1 : W3.cell? ⟨w.heap.size + 1, 0, none⟩ = some (.string (PFX ++ name)) := F1.out 0
    have g2 : W3.cell? ⟨w.heap.size + 1 + 1, 0, none⟩ = some (.string (PFX ++ name)) := F2.out 0
    clear f5
    go_wp2
    go_quiet (fail)
    obtain ⟨V, hV⟩ : ∃ V, V = W3.drewN nq := ⟨_, rfl⟩
    rw [← hV]
    have v0 : V.cell? ⟨w.heap.size + 1, 0, none⟩ = some (.string (PFX ++ name)) := by rw [hV]; exact F1.out 0
    have v7 : V.cell? ⟨w.heap.size + 1, 7, none⟩ = some (.slice none 0 0) := by rw [hV]; exact F1.out 7
    have vB : Below w.heap.size w V := by rw [hV]; exact below_draws f3 _
    have vS : w.heap.size + 2 < V.heap.size := by rw [hV]; show _ < W3.heap.size; rw [F4.out]; omega
    clear hV F1 F2 F4 f3 g1 g2
    obtain ⟨W4, hu, hb4, hs4, hl4⟩ := one_put V name (.pointer (some ⟨w.heap.size, 0, none⟩))
    have HS : Hid _ := hs4
    have HL : Hid _ := hl4
    clear hs4 hl4
    go_wp2_with fail
    have k0 : W4.cell? ⟨w.heap.size + 1, 0, none⟩ = some (.string (PFX ++ name)) := by rw [hb4.cell (by show w.heap.size + 1 < _; omega)]; exact v0
    have k7 : W4.cell? ⟨w.heap.size + 1, 7, none⟩ = some (.slice none 0 0) := by rw [hb4.cell (by show w.heap.size + 1 < _; omega)]; exact v7
    have kl : (Instr.lookup 29 (.map (some V.heap.size)) (.string name) false).run Try.prog W4 = .ok (.pointer (some ⟨w.heap.size, 0, none⟩)) W4 := by have := HL.out name; rw [if_pos rfl] at this; exact this
    have kB : Below w.heap.size w W4 := vB.trans (hb4.mono (by omega))
    have kS : w.heap.size + 2 < W4.heap.size := by rw [HS.out]; omega
    refine (resolve_bare _ _ name _ _ k7 k0 kl).mono ?_
    rintro e w' ⟨rfl, rfl⟩
    clear hu hb4 HS HL v0 v7 vB vS kl
    by_cases e : other = name
    · subst e
      go_wp2
      go_ret
      exact ⟨rfl, kB⟩
    · have e1 := bytes_toList e
      obtain ⟨W5, hu, hb5, hs5, hl5⟩ := one_put W4 other (.pointer (some ⟨w.heap.size, 0, none⟩))
      have HL : Hid _ := hl5
      clear hs5 hl5
      go_wp2_with fail
      have l0 : W5.cell? ⟨w.heap.size + 1, 0, none⟩ = some (.string (PFX ++ name)) := by rw [hb5.cell (by show w.heap.size + 1 < _; omega)]; exact k0
      have l7 : W5.cell? ⟨w.heap.size + 1, 7, none⟩ = some (.slice none 0 0) := by rw [hb5.cell (by show w.heap.size + 1 < _; omega)]; exact k7
      have ll : (Instr.lookup 29 (.map (some W4.heap.size)) (.string name) false).run Try.prog W5 = .ok (.pointer none) W5 := by have := HL.out name; rw [if_neg (Ne.symm e)] at this; exact this
      refine (resolve_bare _ _ name _ _ l7 l0 ll).mono ?_
      rintro e w' ⟨rfl, rfl⟩
      go_wp2
      go_ret
      exact ⟨rfl, kB.trans (hb5.mono (by omega))⟩

theorem res_any (name other : ByteArray) (w : World) :
    Calls Try.prog 5 #[.string name, .string other] w fun e w' => e = .returned (.bool true) ∧ Below w.heap.size w w' := by
  by_cases h : (65536 : Int) < name.size ∨ (65536 : Int) < other.size
  · refine (res_long name other w h).mono fun e w' ⟨he, hw⟩ => ⟨he, ?_⟩
    subst hw; exact Below.refl _ _
  · exact res_main name other w (by omega) (by omega)
end Go.Proofs.Qxb6614045a
