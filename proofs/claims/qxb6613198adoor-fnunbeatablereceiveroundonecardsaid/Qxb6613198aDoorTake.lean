import Derived.Test.Qxb6613198aDoorDecode
namespace Go.Proofs.Qxb6613198aDoor
open Go.ChangeShapes Go.WideShapes Go.ChangeAt Go.RowKit
open Plain
set_option linter.unusedVariables false

/-- okT as far as process k. -/
theorem okT_succ (es : List Ent) (L : List Int) (k : Nat) : okT es L (k + 1) = (okT es L k && decide (((entAt es k).x : Int) ≤ L.getD k 0 + 1)) := by
  simp [okT, List.range_succ]
theorem okT_of {es : List Ent} {L : List Int} {k n : Nat} (hk : k < n) (h : ¬ ((entAt es k).x : Int) ≤ L.getD k 0 + 1) : okT es L n = false := by
  rw [Bool.eq_false_iff]
  intro hh
  simp only [okT, List.all_eq_true, List.mem_range, decide_eq_true_eq] at hh
  exact h (hh k hk)

/-- takeL, takeI as far as process k. -/
def takeLk (es : List Ent) (L : List Int) (k : Nat) : List Int := (List.range L.length).map fun h => if h < k then max (L.getD h 0) (((entAt es h).c : Int) - 1) else L.getD h 0
def takeIk (es : List Ent) (L I : List Int) (k : Nat) : List Int := (List.range I.length).map fun h => if h < k then (if L.getD h 0 < ((entAt es h).c : Int) - 1 then ((entAt es h).v : Int) else I.getD h 0) else I.getD h 0

theorem list_getD_range (l : List Int) : (List.range l.length).map (fun h => l.getD h 0) = l := by
  apply List.ext_getElem
  · simp
  · intro i h1 h2
    simp at h1
    simp [List.getD, h1]
theorem takeLk_zero (es : List Ent) (L : List Int) : takeLk es L 0 = L := by simpa [takeLk] using list_getD_range L
theorem takeIk_zero (es : List Ent) (L I : List Int) : takeIk es L I 0 = I := by simpa [takeIk] using list_getD_range I
theorem takeLk_len (es : List Ent) (L : List Int) (k : Nat) : (takeLk es L k).length = L.length := by simp [takeLk]
theorem takeIk_len (es : List Ent) (L I : List Int) (k : Nat) : (takeIk es L I k).length = I.length := by simp [takeIk]
theorem takeLk_all (es : List Ent) (L : List Int) : takeLk es L L.length = takeL es L := by
  unfold takeLk takeL
  apply List.map_congr_left
  intro h hh
  rw [if_pos (by simpa using hh)]
theorem takeIk_all (es : List Ent) (L I : List Int) : takeIk es L I I.length = takeI es L I := by
  unfold takeIk takeI
  apply List.map_congr_left
  intro h hh
  rw [if_pos (by simpa using hh)]
theorem takeLk_get (es : List Ent) (L : List Int) (k : Nat) (hk : k < L.length) : (takeLk es L k).getD k 0 = L.getD k 0 := by
  simp [takeLk, List.getD, hk]
theorem takeIk_get (es : List Ent) (L I : List Int) (k : Nat) (hk : k < I.length) : (takeIk es L I k).getD k 0 = I.getD k 0 := by
  simp [takeIk, List.getD, hk]

theorem map_range_set (n k : Nat) (f g : Nat → Int) (v : Int) (hk : k < n) (hv : g k = v) (h : ∀ j, j ≠ k → f j = g j) : ((List.range n).map f).set k v = (List.range n).map g := by
  apply List.ext_getElem?
  intro j
  rw [List.getElem?_set]
  by_cases e : k = j
  · subst e
    simp [hk, hv]
  · rw [if_neg e]
    by_cases hj : j < n
    · simp [hj, h j (Ne.symm e)]
    · simp [hj]
theorem map_range_congr (n : Nat) (f g : Nat → Int) (h : ∀ j, j < n → f j = g j) : (List.range n).map f = (List.range n).map g := by
  apply List.map_congr_left
  intro j hj
  exact h j (by simpa using hj)

theorem takeLk_set (es : List Ent) (L : List Int) (k : Nat) (hk : k < L.length) (v : Int) (hv : v = max (L.getD k 0) (((entAt es k).c : Int) - 1)) : (takeLk es L k).set k v = takeLk es L (k + 1) := by
  refine map_range_set _ _ _ _ _ hk (by rw [if_pos (by omega), hv]) fun j hj => ?_
  by_cases h : j < k
  · rw [if_pos h, if_pos (c := j < k + 1) (by omega)]
  · rw [if_neg h, if_neg (c := j < k + 1) (by omega)]
theorem takeLk_skip (es : List Ent) (L : List Int) (k : Nat) (hv : ((entAt es k).c : Int) - 1 ≤ L.getD k 0) : takeLk es L k = takeLk es L (k + 1) := by
  refine map_range_congr _ _ _ fun j hj => ?_
  by_cases h : j < k
  · rw [if_pos h, if_pos (c := j < k + 1) (by omega)]
  · by_cases h' : j = k
    · subst h'
      rw [if_neg h, if_pos (by omega), Int.max_eq_left hv]
    · rw [if_neg h, if_neg (c := j < k + 1) (by omega)]
theorem takeIk_set (es : List Ent) (L I : List Int) (k : Nat) (hk : k < I.length) (v : Int) (hv : v = ((entAt es k).v : Int)) (hl : L.getD k 0 < ((entAt es k).c : Int) - 1) : (takeIk es L I k).set k v = takeIk es L I (k + 1) := by
  refine map_range_set _ _ _ _ _ hk (by rw [if_pos (by omega), if_pos hl, hv]) fun j hj => ?_
  by_cases h : j < k
  · rw [if_pos h, if_pos (c := j < k + 1) (by omega)]
  · rw [if_neg h, if_neg (c := j < k + 1) (by omega)]
theorem takeIk_skip (es : List Ent) (L I : List Int) (k : Nat) (hv : ((entAt es k).c : Int) - 1 ≤ L.getD k 0) : takeIk es L I k = takeIk es L I (k + 1) := by
  refine map_range_congr _ _ _ fun j hj => ?_
  by_cases h : j < k
  · rw [if_pos h, if_pos (c := j < k + 1) (by omega)]
  · by_cases h' : j = k
    · subst h'
      rw [if_neg h, if_pos (c := j < j + 1) (by omega), if_neg (by omega)]
    · rw [if_neg h, if_neg (c := j < k + 1) (by omega)]
end Go.Proofs.Qxb6613198aDoor
