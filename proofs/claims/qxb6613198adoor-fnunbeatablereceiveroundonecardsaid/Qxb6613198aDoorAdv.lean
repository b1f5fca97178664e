import Derived.Test.Qxb6613198aDoorView
namespace Go.Proofs.Qxb6613198aDoor
open Go.ChangeShapes Go.WideShapes Go.ChangeAt Go.RowKit
open Plain

/-- The rows of the heard-from sets: one slice a process, all in one array. -/
def heardC (bs n width : Nat) : Array Value := ((List.range n).map fun h => Value.slice (some ⟨bs, h * width, none⟩) width width).toArray
theorem heardC_get (bs n width h : Nat) (hh : h < n) : (heardC bs n width)[h]? = some (.slice (some ⟨bs, h * width, none⟩) width width) := by
  simp [heardC, hh]
theorem row_lt {n width h l : Nat} (hh : h < n) (hl : l < width) : h * width + l < n * width := by
  have : (h + 1) * width ≤ n * width := Nat.mul_le_mul_right _ hh
  rw [Nat.succ_mul] at this
  omega

set_option maxHeartbeats 400000 in
/-- ZZunbHeardAt (12). -/
theorem heardAt_any (w : World) (bp id n bv br bsh bl bi bh bs m width h l : Nat) (last : Int) (ended dec : Bool) (val rnd : Int) (cr : Value) (S : List Int) (hp : Blk w bp (procC id n bv br bsh last ended dec val rnd) 59) (hv : Blk w bv (viewC n bl bi bh bs m cr) 48)
    (hh : Blk w bh (heardC bs n width) 44) (hs : Blk w bs (u64s S) 34) (lS : S.length = n * width) (h1 : h < n) (h2 : l < width) :
    Calls Tryd.prog 12 #[.pointer (some ⟨bp, 0, none⟩), .int .i64 h, .int .i64 l] w fun e w' => e = .returned (.int .u64 (S.getD (h * width + l) 0)) ∧ w = w' := by
  have c2 := hp.cell 2
  have v3 := hv.cell 3
  simp [procC, viewC] at c2 v3
  have ch := (hh.cell h).trans (heardC_get bs n width h h1)
  obtain ⟨x, hx⟩ : ∃ x, x = S.getD (h * width + l) 0 := ⟨_, rfl⟩
  have cs := (hs.cell (h * width + l)).trans (u64s_get S (h * width + l) (by rw [lS]; exact row_lt h1 h2))
  rw [← hx] at cs ⊢
  clear hp hv hh hs hx lS
  go_enter Tryd.func12, Tryd.ntmps12
  go_wp2
  go_ret
  exact ⟨rfl, rfl⟩

theorem cell_set_drew {w : World} {b c i j : Nat} {v x : Value} (h : c ≠ b) (hx : w.cell? ⟨c, j, none⟩ = some x) : (w.setCell ⟨b, i, none⟩ v).drew.cell? ⟨c, j, none⟩ = some x := by
  rw [← hx]
  exact World.cell?_of_block (w := w) (a := ⟨c, j, none⟩) (Below.heap_setCell w ⟨b, i, none⟩ v c h)

/-- 'H | 1<<id' as the walk writes it. -/
def orBit (H : Int) (id : Nat) : Int := bits BinOp.or IntKind.u64 H (IntKind.u64.wrap (2 ^ id))

set_option maxHeartbeats 400000 in
/-- advance (17). -/
theorem advance_any (w : World) (id n bv bl bi bh bs m width r : Nat) (H : Int) (cr : Value) (L S : List Int) (hv : Blk w bv (viewC n bl bi bh bs m cr) 48) (hL : Blk w bl (ints L) 3) (lL : L.length = n)
    (hh : Blk w bh (heardC bs n width) 44) (hs : Blk w bs (u64s S) 34) (lS : S.length = n * width) (h1 : id < n) (h2 : r < width) (hn : n ≤ 64) (n1 : bv ≠ bl) (n2 : bh ≠ bl) (n3 : bs ≠ bl) (n4 : bv ≠ bs) (n5 : bh ≠ bs) :
    Calls Tryd.prog 17 #[.pointer (some ⟨bv, 0, none⟩), .int .i64 id, .int .i64 r, .int .u64 H] w fun e w' => e = .returned (.tuple #[]) ∧ Blk w' bl (ints (L.set id r)) 3 ∧ Blk w' bs (u64s (S.set (id * width + r) (orBit H id))) 34 ∧ Keeps [bl, bs] w w' := by
  have v1 := hv.cell 1
  simp [viewC] at v1
  have cl := (hL.cell id).trans (ints_get L id (by omega))
  have fl := hL.frozen id
  have k1 := (Keeps.refl [bl, bs] w).setCell (b := bl) (i := id) (by simp) (.int .i64 r)
  have b1 := hL.set id (.int .i64 r)
  rw [ints_set] at b1
  obtain ⟨W1, hW1⟩ : ∃ W1, W1 = w.setCell ⟨bl, id, none⟩ (.int .i64 r) := ⟨_, rfl⟩
  have k0 : Keeps [bl] w W1 := by rw [hW1]; exact (Keeps.refl [bl] w).setCell (by simp) _
  rw [← hW1] at k1 b1
  have v3 := (k0.blk hv (by simpa using n1)).cell 3
  simp [viewC] at v3
  have ch := ((k0.blk hh (by simpa using n2)).cell id).trans (heardC_get bs n width id h1)
  have hs1 := k0.blk hs (by simpa using n3)
  have cs := (hs1.cell (id * width + r)).trans (u64s_get S (id * width + r) (by rw [lS]; exact row_lt h1 h2))
  have fs := hs1.frozen (id * width + r)
  have K1 := hideIt k1
  have B1 := hideIt b1
  have S1 := hideIt hs1
  have HW := hideIt hW1
  clear k0 hv hL hh hs lS k1 b1 hs1 hW1
  go_enter Tryd.func17, Tryd.ntmps17
  go_wp2
  rw [← HW.out]
  have i1 : (0 : Int) ≤ (id : Int) := by omega
  have i2 : (id : Int) < (n : Int) := by omega
  have i3 : (0 : Int) ≤ (r : Int) := by omega
  have i4 : (r : Int) < (width : Int) := by omega
  clear cl fl v1
  go_region_held3 (fun w' => w'.cell? ⟨bv, 3, none⟩ = some (.slice (some ⟨bh, 0, none⟩) n n) ∧ w'.cell? ⟨bh, id, none⟩ = some (.slice (some ⟨bs, id * width, none⟩) width width)) (first | exact ⟨cell_set_drew n4 v3, cell_set_drew n5 ch⟩ | go_keep) (fail)
  all_goals go_wp2
  all_goals go_end0
  have B2 := S1.out.set (id * width + r) (.int .u64 (orBit H id))
  rw [u64s_set] at B2
  have K2 := K1.out.setCell (b := bs) (i := id * width + r) (by simp) (.int .u64 (orBit H id))
  refine ⟨rfl, ?_, B2, K2.drew⟩
  exact ((Keeps.refl [bs] W1).setCell (b := bs) (i := id * width + r) (by simp) (.int .u64 (orBit H id))).blk B1.out (by simpa using Ne.symm n3)
end Go.Proofs.Qxb6613198aDoor
