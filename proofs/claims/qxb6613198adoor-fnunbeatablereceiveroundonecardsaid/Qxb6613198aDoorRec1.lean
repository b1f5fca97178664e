import Derived.Test.Qxb6613198aDoorPlain3
namespace Go.Proofs.Qxb6613198aDoor
open Go.ChangeShapes Go.WideShapes Go.ChangeAt Go.RowKit
open Plain
set_option linter.unusedVariables false

/-- The state at the start of round 1. -/
def s1 (n id : Nat) (input : Int) : PS := ⟨Ls n id 0, (List.replicate n 0).set id input, List.replicate n MAXI, 0⟩
theorem s1_ok (n id : Nat) (input : Int) (hid : id < n) : SOk n id (s1 n id input) :=
  ⟨low_start n id hid, by show 0 ≤ (Ls n id 0).getD id 0; rw [Ls_id n id 0 hid]; decide, by simp [s1], by simp [s1], 0, HOk.zero n⟩

/-- What is decided behind round 1. -/
def Dec (now zero sees : Bool) (input : Int) (dec : Bool) (val rnd : Int) : Prop :=
  (now = true ∧ dec = true ∧ val = input ∧ rnd = 0) ∨ (now = false ∧ zero = true ∧ dec = true ∧ val = 0 ∧ rnd = 1) ∨ (now = false ∧ zero = false ∧ sees = true ∧ dec = true ∧ val = 1 ∧ rnd = 1) ∨ (now = false ∧ zero = false ∧ sees = false ∧ dec = false ∧ val = 0 ∧ rnd = 0)

/-- Round 1. -/
theorem rec_one (wA w2 : World) (k : Blks) (rl rf ri re id n lr bm h : Nat) (input : Int) (now : Bool) (cr : Value) (ms : List Msg) (s : PS) (dec' : Bool) (val' rnd' : Int)
    (hs : s = foldM n (s1 n id input) ms)
    (g : GS w2 k rl rf ri re id n (lr + 1) lr false (decOf now 0) (valOf now input 0) (rndOf now 0) cr (List.replicate (n * (lr + 1)) 0) ⟨Ls n id 0, (List.replicate n 0).set id input, List.replicate n 0, 0⟩)
    (ga : GAp k wA.heap.size rl rf ri re) (hb : Below wA.heap.size wA w2) (hm : Msgs wA.heap.size wA bm ms) (hml : ms.length ≤ 65536) (h1 : 1 ≤ n) (hn : n ≤ 64) (hid : id < n) (hl1 : 1 ≤ lr) (hl2 : lr ≤ 65536) (hT : TabAt 0 Lib.deBruijn64tab wA)
    (hh : HOk n s.H h) (hd : Dec now (holdsB s.L s.I n) (allB s.L n || alone h id) input dec' val' rnd') :
    Calls Tryd.prog 8 #[.pointer (some ⟨k.bp, 0, none⟩), .int .i64 ((1 : Nat) : Int), .slice (some ⟨bm, 0, none⟩) ms.length ms.length] w2 fun e w' => e = .returned (.tuple #[]) ∧ ∃ cr' S', St w' k id n (lr + 1) lr (decide ((lr : Int) ≤ ((1 : Nat) : Int))) dec' val' rnd' cr' (s.L.set id ((1 : Nat) : Int)) s.I S' s.S ∧
      S'.getD (id * (lr + 1) + 1) 0 = orBit s.H id ∧ Below wA.heap.size w2 w' := by
  have hB : wA.heap.size ≤ w2.heap.size := hb.size
  have ok : SOk n id s := by rw [hs]; exact SOk.fold hn hid ms _ (s1_ok n id input hid)
  have hset : ((List.replicate (n * (lr + 1)) (0 : Int)).set (id * (lr + 1) + 1) (orBit s.H id)).getD (id * (lr + 1) + 1) 0 = orBit s.H id :=
    getD_set_eq _ _ _ (by rw [List.length_replicate]; exact row_lt hid (by omega))
  have g2 : GS w2.drew k rl rf ri re id n (lr + 1) lr false (decOf now 0) (valOf now input 0) (rndOf now 0) cr (List.replicate (n * (lr + 1)) 0) ⟨Ls n id 0, (List.replicate n 0).set id input, List.replicate n 0, 0⟩ := GS.same (w := w2) (w' := w2.drew) rfl g
  have hmd : Msgs wA.heap.size w2.drew bm ms := by
    have := hm.below hb
    exact ⟨this.lt, this.f, this.t, this.p, this.b⟩
  have hL1 : ((1 : Nat) : Int) = 1 := rfl
  refine (receive_any w2 k wA.heap.size id n (lr + 1) 1 s.H lr false (decOf now 0) (valOf now input 0) (rndOf now 0) cr _ _ _ _ _ s.L s.I s.S dec' val' rnd' g.st ga.a hB hid (by omega) hn ?_ ?_).mono ?_
  · refine (gather_any w2.drew k wA.heap.size rl rf ri re id n (lr + 1) bm lr false (decOf now 0) (valOf now input 0) (rndOf now 0) cr _ _ ms g2 ga hB hmd hml h1 hn (by omega) (by omega)).mono ?_
    rintro e w' ⟨he, gj⟩
    have hs' : foldM n ⟨Ls n id 0, (List.replicate n 0).set id input, List.replicate n MAXI, 0⟩ ms = s := hs.symm
    rw [hs'] at he gj
    exact ⟨he, gj.g.st, gj.b.os, gj.b.tape, gj.b.output, gj.b.size, gj.b.block⟩
  · intro w3 st3 hb3
    have hT3 := tab_below (tab_below hT hb ga.a.z) hb3 ga.a.z
    have hB3 : wA.heap.size ≤ w3.heap.size := Nat.le_trans hB hb3.size
    rw [hL1] at st3 ⊢
    have hz := holds_set s.L s.I n id ok.low.1 ok.own hid
    rcases hd with ⟨rfl, rfl, rfl, rfl⟩ | ⟨rfl, e1, rfl, rfl, rfl⟩ | ⟨rfl, e1, e2, rfl, rfl, rfl⟩ | ⟨rfl, e1, e2, rfl, rfl, rfl⟩
    · exact applies_done w3 k wA.heap.size id n (lr + 1) 1 lr false _ _ cr _ _ _ _ st3
    · exact applies_zero w3 k wA.heap.size id n (lr + 1) 1 lr false _ _ cr _ _ _ _ st3 ga.a hB3 hn (by rw [hz]; exact e1)
    all_goals
      refine applies_see w3 k wA.heap.size id n (lr + 1) 1 (h ||| 2 ^ id) (missing n (h ||| 2 ^ id)) lr false _ _ cr _ _ _ _ st3 ga.a hB3 h1 hn hid (by rw [hz]; exact e1) (fun j hj hne => by rw [getD_set_ne _ _ _ _ (Ne.symm hne)]; exact (ok.low.2 j hj).2)
        (Or.inr ⟨getD_set_eq _ _ _ (by rw [ok.low.1]; exact hid), by omega, by rw [hset, hh.eq, orBit_nat hh.lt (by omega)], Nat.or_lt_two_pow hh.lt (bit_lt (by omega)), rfl⟩) (by omega) hT3 _ _ _ ?_
      rw [sees_law s.L n id h ok.low hid hn ok.own hh.lt hh.bit, e2]
    · exact Or.inl ⟨rfl, rfl, rfl, rfl⟩
    · exact Or.inr ⟨rfl, rfl, rfl, rfl⟩
  · rintro e w' ⟨rfl, cr', st', hbel⟩
    exact ⟨rfl, cr', _, st', hset, hbel⟩
end Go.Proofs.Qxb6613198aDoor
