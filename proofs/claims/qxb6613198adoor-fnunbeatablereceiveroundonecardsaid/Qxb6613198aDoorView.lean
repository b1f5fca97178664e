import Derived.Test.Qxb6613198aDoorBase
import Derived.Lib.SliceRun
namespace Go.Proofs.Qxb6613198aDoor
open Go.ChangeShapes Go.WideShapes Go.ChangeAt Go.RowKit
open Plain

/-- What the process's block holds. -/
def procC (id n bv br bsh : Nat) (last : Int) (ended dec : Bool) (val rnd : Int) : Array Value :=
  #[.int .i64 id, .int .i64 n, .pointer (some ⟨bv, 0, none⟩), .pointer (some ⟨br, 0, none⟩), .slice (some ⟨bsh, 0, none⟩) n n, .slice none 0 0, .slice none 0 0, .int .i64 last, .bool ended, .bool dec, .int .i64 val, .int .i64 rnd]
/-- What the view's block holds. -/
def viewC (n bl bi bh bs m : Nat) (cr : Value) : Array Value :=
  #[.int .i64 n, .slice (some ⟨bl, 0, none⟩) n n, .slice (some ⟨bi, 0, none⟩) n n, .slice (some ⟨bh, 0, none⟩) n n, .slice (some ⟨bs, 0, none⟩) m m, cr]

/-! decide (20) -/
theorem decide_any (w : World) (bp id n bv br bsh : Nat) (last : Int) (ended dec : Bool) (val rnd v r : Int) (hp : Blk w bp (procC id n bv br bsh last ended dec val rnd) 59) :
    Calls Tryd.prog 20 #[.pointer (some ⟨bp, 9, none⟩), .int .i64 v, .int .i64 r] w fun e w' => e = .returned (.tuple #[]) ∧ Blk w' bp (procC id n bv br bsh last ended true v r) 59 ∧ Keeps [bp] w w' := by
  have c9 := hp.cell 9
  have c10 := hp.cell 10
  have c11 := hp.cell 11
  have f9 := hp.frozen 9
  have f10 := hp.frozen 10
  have f11 := hp.frozen 11
  simp [procC] at c9 c10 c11
  have P' := ((hp.set 9 (.bool true)).set 10 (.int .i64 v)).set 11 (.int .i64 r)
  have K' := (((Keeps.refl [bp] w).setCell (b := bp) (i := 9) (by simp) (.bool true)).setCell (b := bp) (i := 10) (by simp) (.int .i64 v)).setCell (b := bp) (i := 11) (by simp) (.int .i64 r)
  have HP := hideIt P'
  have HK := hideIt K'
  clear P' K' hp
  go_enter Tryd.func20, Tryd.ntmps20
  go_wp2
  go_end0
  exact ⟨rfl, HP.out, HK.out⟩

/-! The look-ins (10, 11, 13, 14, 15). -/
theorem ended_any (w : World) (bp id n bv br bsh : Nat) (last : Int) (ended dec : Bool) (val rnd : Int) (hp : Blk w bp (procC id n bv br bsh last ended dec val rnd) 59) :
    Calls Tryd.prog 11 #[.pointer (some ⟨bp, 0, none⟩)] w fun e w' => e = .returned (.bool ended) ∧ w = w' := by
  have c8 := hp.cell 8
  simp [procC] at c8
  clear hp
  go_enter Tryd.func11, Tryd.ntmps11
  go_wp2
  go_ret
  exact ⟨rfl, rfl⟩

theorem shown_any (w : World) (bp id n bv br bsh : Nat) (last : Int) (ended dec : Bool) (val rnd : Int) (hp : Blk w bp (procC id n bv br bsh last ended dec val rnd) 59) :
    Calls Tryd.prog 15 #[.pointer (some ⟨bp, 0, none⟩)] w fun e w' => e = .returned (.slice (some ⟨bsh, 0, none⟩) n n) ∧ w = w' := by
  have c4 := hp.cell 4
  simp [procC] at c4
  clear hp
  go_enter Tryd.func15, Tryd.ntmps15
  go_wp2
  go_ret
  exact ⟨rfl, rfl⟩

theorem latest_any (w : World) (bp id n bv br bsh bl bi bh bs m : Nat) (last : Int) (ended dec : Bool) (val rnd : Int) (cr : Value) (hp : Blk w bp (procC id n bv br bsh last ended dec val rnd) 59) (hv : Blk w bv (viewC n bl bi bh bs m cr) 48) :
    Calls Tryd.prog 13 #[.pointer (some ⟨bp, 0, none⟩)] w fun e w' => e = .returned (.slice (some ⟨bl, 0, none⟩) n n) ∧ w = w' := by
  have c2 := hp.cell 2
  have v1 := hv.cell 1
  simp [procC, viewC] at c2 v1
  clear hp hv
  go_enter Tryd.func13, Tryd.ntmps13
  go_wp2
  go_ret
  exact ⟨rfl, rfl⟩

theorem inputs_any (w : World) (bp id n bv br bsh bl bi bh bs m : Nat) (last : Int) (ended dec : Bool) (val rnd : Int) (cr : Value) (hp : Blk w bp (procC id n bv br bsh last ended dec val rnd) 59) (hv : Blk w bv (viewC n bl bi bh bs m cr) 48) :
    Calls Tryd.prog 14 #[.pointer (some ⟨bp, 0, none⟩)] w fun e w' => e = .returned (.slice (some ⟨bi, 0, none⟩) n n) ∧ w = w' := by
  have c2 := hp.cell 2
  have v2 := hv.cell 2
  simp [procC, viewC] at c2 v2
  clear hp hv
  go_enter Tryd.func14, Tryd.ntmps14
  go_wp2
  go_ret
  exact ⟨rfl, rfl⟩

set_option maxHeartbeats 400000 in
theorem decision_any (w : World) (bp id n bv br bsh : Nat) (last : Int) (ended dec : Bool) (val rnd : Int) (hp : Blk w bp (procC id n bv br bsh last ended dec val rnd) 59) :
    Calls Tryd.prog 10 #[.pointer (some ⟨bp, 0, none⟩)] w fun e w' => e = .returned (.tuple #[.bool dec, .int .i64 val, .int .i64 rnd]) ∧ ∃ k, w' = w.drewN k := by
  have c9 := hp.cell 9
  have c10 := hp.cell 10
  have c11 := hp.cell 11
  simp [procC] at c9 c10 c11
  clear hp
  go_enter Tryd.func10, Tryd.ntmps10
  go_wp2
  go_quiet (fail)
  go_wp2
  go_ret3
  exact ⟨rfl, _, rfl⟩

/-! holdsInput (19), seesAllAt (22) -/
def holdsB (L I : List Int) (k : Nat) : Bool := (List.range k).any fun h => decide (0 ≤ L.getD h 0) && (I.getD h 0 == 0)
theorem holdsB_succ (L I : List Int) (k : Nat) : holdsB L I (k + 1) = (holdsB L I k || (decide (0 ≤ L.getD k 0) && (I.getD k 0 == 0))) := by
  simp [holdsB, List.range_succ]
theorem holdsB_of {L I : List Int} {k n : Nat} (hk : k < n) (h1 : 0 ≤ L.getD k 0) (h2 : I.getD k 0 = 0) : holdsB L I n = true := by
  simp only [holdsB, List.any_eq_true, List.mem_range, Bool.and_eq_true, decide_eq_true_eq, beq_iff_eq]
  exact ⟨k, hk, h1, h2⟩

def seesB (L C : List Int) (l : Int) (k : Nat) : Bool := (List.range k).all fun h => !(decide (L.getD h 0 < l) && decide (l < C.getD h 0))
theorem seesB_succ (L C : List Int) (l : Int) (k : Nat) : seesB L C l (k + 1) = (seesB L C l k && !(decide (L.getD k 0 < l) && decide (l < C.getD k 0))) := by
  simp [seesB, List.range_succ]
theorem seesB_of {L C : List Int} {l : Int} {k n : Nat} (hk : k < n) (h1 : L.getD k 0 < l) (h2 : l < C.getD k 0) : seesB L C l n = false := by
  rw [Bool.eq_false_iff]
  intro h
  simp only [seesB, List.all_eq_true, List.mem_range] at h
  have := h k hk
  rw [decide_eq_true h1, decide_eq_true h2] at this
  cases this

set_option maxHeartbeats 400000 in
theorem holds_any (w : World) (bv n bl bi bh bs m : Nat) (cr : Value) (L I : List Int) (hv : Blk w bv (viewC n bl bi bh bs m cr) 48) (hL : Blk w bl (ints L) 3) (hI : Blk w bi (ints I) 3) (lL : L.length = n) (lI : I.length = n) (hn : n ≤ 64) :
    Calls Tryd.prog 19 #[.pointer (some ⟨bv, 0, none⟩), .int .i64 0] w fun e w' => e = .returned (.bool (holdsB L I n)) ∧ w = w' := by
  have v1 := hv.cell 1
  have v2 := hv.cell 2
  simp [viewC] at v1 v2
  have HL := hideIt hL
  have HI := hideIt hI
  have LL := hideIt lL
  have LI := hideIt lI
  clear hv hL hI lL lI
  go_enter Tryd.func19, Tryd.ntmps19
  go_wp2
  go_loop [12] (fun i => ∃ k : Nat, k ≤ n ∧ i = .int .i64 k ∧ holdsB L I k = false) (fun i => n - (intOf i).toNat)
  case atStart => exact ⟨0, by omega, rfl, rfl⟩
  case round =>
    obtain ⟨k, hk, rfl, hno⟩ := hrel
    have HN := hideIt hno
    clear hno
    by_cases hlt : k < n
    · obtain ⟨x, hx⟩ : ∃ x, x = L.getD k 0 := ⟨_, rfl⟩
      obtain ⟨y, hy⟩ : ∃ y, y = I.getD k 0 := ⟨_, rfl⟩
      have cl : w.cell? ⟨bl, k, none⟩ = some (.int .i64 x) := by rw [hx]; exact (HL.out.cell k).trans (ints_get _ k (by rw [LL.out]; exact hlt))
      have ci : w.cell? ⟨bi, k, none⟩ = some (.int .i64 y) := by rw [hy]; exact (HI.out.cell k).trans (ints_get _ k (by rw [LI.out]; exact hlt))
      have HX := hideIt hx
      have HY := hideIt hy
      clear hx hy
      by_cases h0 : 0 ≤ x
      · by_cases h1 : y = 0
        · have e1 : (y == 0) = true := beq_iff_eq.2 h1
          have fin : Hid (holdsB L I n = true) := holdsB_of hlt (by rw [← HX.out]; exact h0) (by rw [← HY.out]; exact h1)
          clear h1
          go_wp2
          go_ret
          exact ⟨by rw [fin.out]; rfl, rfl⟩
        · have e1 : (y == 0) = false := beq_eq_false_iff_ne.2 h1
          have fin : Hid (holdsB L I (k + 1) = false) := by show _ = _; rw [holdsB_succ, HN.out, ← HY.out, e1]; simp
          clear h1
          go_wp2
          go_round
          case rel => exact ⟨k + 1, by omega, by go_num, fin.out⟩
          case measure => simp [intOf]; omega
      · have e0 : decide (0 ≤ x) = false := by simpa using h0
        have fin : Hid (holdsB L I (k + 1) = false) := by show _ = _; rw [holdsB_succ, HN.out, ← HX.out, e0]; simp
        go_wp2
        go_round
        case rel => exact ⟨k + 1, by omega, by go_num, fin.out⟩
        case measure => simp [intOf]; omega
    · obtain rfl : k = n := by omega
      go_wp2
      go_ret
      exact ⟨by rw [HN.out]; rfl, rfl⟩

set_option maxHeartbeats 400000 in
theorem sees_any (w : World) (bv n bl bi bh bs m bc : Nat) (cr : Value) (L C : List Int) (l : Int) (hv : Blk w bv (viewC n bl bi bh bs m cr) 48) (hL : Blk w bl (ints L) 3) (hC : Blk w bc (ints C) 3) (lL : L.length = n) (lC : C.length = n) (hn : n ≤ 64) :
    Calls Tryd.prog 22 #[.pointer (some ⟨bv, 0, none⟩), .int .i64 l, .slice (some ⟨bc, 0, none⟩) n n] w fun e w' => e = .returned (.bool (seesB L C l n)) ∧ w = w' := by
  have v1 := hv.cell 1
  simp [viewC] at v1
  have HL := hideIt hL
  have HC := hideIt hC
  have LL := hideIt lL
  have LC := hideIt lC
  clear hv hL hC lL lC
  go_enter Tryd.func22, Tryd.ntmps22
  go_wp2
  go_loop [14] (fun i => ∃ k : Nat, k ≤ n ∧ i = .int .i64 k ∧ seesB L C l k = true) (fun i => n - (intOf i).toNat)
  case atStart => exact ⟨0, by omega, rfl, rfl⟩
  case round =>
    obtain ⟨k, hk, rfl, hno⟩ := hrel
    have HN := hideIt hno
    clear hno
    by_cases hlt : k < n
    · obtain ⟨x, hx⟩ : ∃ x, x = L.getD k 0 := ⟨_, rfl⟩
      obtain ⟨y, hy⟩ : ∃ y, y = C.getD k 0 := ⟨_, rfl⟩
      have cl : w.cell? ⟨bl, k, none⟩ = some (.int .i64 x) := by rw [hx]; exact (HL.out.cell k).trans (ints_get _ k (by rw [LL.out]; exact hlt))
      have ci : w.cell? ⟨bc, k, none⟩ = some (.int .i64 y) := by rw [hy]; exact (HC.out.cell k).trans (ints_get _ k (by rw [LC.out]; exact hlt))
      have HX := hideIt hx
      have HY := hideIt hy
      clear hx hy
      by_cases h0 : x < l
      · by_cases h1 : l < y
        · have fin : Hid (seesB L C l n = false) := seesB_of hlt (by rw [← HX.out]; exact h0) (by rw [← HY.out]; exact h1)
          go_wp2
          go_ret
          exact ⟨by rw [fin.out]; rfl, rfl⟩
        · have e1 : decide (l < y) = false := by simpa using h1
          have fin : Hid (seesB L C l (k + 1) = true) := by show _ = _; rw [seesB_succ, HN.out, ← HY.out, e1]; simp
          go_wp2
          go_round
          case rel => exact ⟨k + 1, by omega, by go_num, fin.out⟩
          case measure => simp [intOf]; omega
      · have e0 : decide (x < l) = false := by simpa using h0
        have fin : Hid (seesB L C l (k + 1) = true) := by show _ = _; rw [seesB_succ, HN.out, ← HX.out, e0]; simp
        go_wp2
        go_round
        case rel => exact ⟨k + 1, by omega, by go_num, fin.out⟩
        case measure => simp [intOf]; omega
    · obtain rfl : k = n := by omega
      go_wp2
      go_ret
      exact ⟨by rw [HN.out]; rfl, rfl⟩
end Go.Proofs.Qxb6613198aDoor
