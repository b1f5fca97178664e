import Derived.Test.Qxb6613198aDoorDecode2
import Derived.Test.Qxb6613198aDoorTake2
import Derived.Test.Qxb6613198aDoorSilent
namespace Go.Proofs.Qxb6613198aDoor
open Go.ChangeShapes Go.WideShapes Go.ChangeAt Go.RowKit
open Plain
set_option linter.unusedVariables false

theorem info25 : (Tryd.prog.info? 25).map (fun i => (i.zero, i.size, i.bytes)) = some (some (.slice none 0 0), 1, 24) := by kernel_rfl

set_option maxHeartbeats 1000000 in
set_option maxRecDepth 100000 in
/-- decode (23) of any sender. -/
theorem decode_any (w : World) (B n br rl rf ri re : Nat) (f : Int) (v : Value) (l : List UInt8) (RL RF RI : List Int) (hr : Rcv w n br rl rf ri re RL RF RI) (ha : RAp B br rl rf ri re) (hB : B ≤ w.heap.size) (hv : BytB B w v l) (hl : l.length ≤ 1048576) (h1 : 1 ≤ n) (hn : n ≤ 64) :
    Calls Tryd.prog 23 #[.pointer (some ⟨br, 0, none⟩), v, .int .i64 f, .int .i64 0] w fun e w' => e = .returned (.bool (msgEs n f l).isSome) ∧ ∃ RL' RF' RI', Rcv w' n br rl rf ri re RL' RF' RI' ∧ (∀ es, msgEs n f l = some es → es.length = n ∧ Says es RL' RF' RI') ∧ Keeps [br, rl, rf, ri, re] w w' := by
  by_cases hf : 0 ≤ f ∧ f < n
  · obtain ⟨fr, rfl⟩ := Int.eq_ofNat_of_zero_le hf.1
    exact decode_in w B n br rl rf ri re fr v l RL RF RI hr ha hB hv hl h1 hn (by omega)
  · have fin := hideIt (msgEs_out (l := l) hf)
    have r0 := hr.r.cell 0
    simp [recvC] at r0
    obtain ⟨ao, vn, vc, rfl, -⟩ := hv.slice
    have k2 := (Keeps.refl [br, rl, rf, ri, re] w).alloc (.cells #[.slice ao vn vc] 25)
    have k0 := (Keeps.refl [] w).alloc (.cells #[.slice ao vn vc] 25)
    have hr' : Rcv (w.alloc (.cells #[.slice ao vn vc] 25)) n br rl rf ri re RL RF RI := ⟨k0.blk hr.r (by simp), k0.blk hr.l (by simp), hr.ll, k0.blk hr.f (by simp), hr.lf, k0.blk hr.i (by simp), hr.li, k0.blk hr.e (by simp)⟩
    have HR := hideIt hr'
    have HK := hideIt k2
    have hbr := hr.r.lt
    clear hr hv k2 k0 hr' ha hl
    by_cases hneg : f < 0
    · go_enter Tryd.func23, Tryd.ntmps23
      go_wp2
      go_ret
      exact ⟨by rw [fin.out]; rfl, RL, RF, RI, HR.out, (fun es h => by rw [fin.out] at h; cases h), HK.out⟩
    · have hge : (n : Int) ≤ f := by omega
      clear hf
      go_enter Tryd.func23, Tryd.ntmps23
      go_wp2
      go_ret
      exact ⟨by rw [fin.out]; rfl, RL, RF, RI, HR.out, (fun es h => by rw [fin.out] at h; cases h), HK.out⟩

/-- The state behind writes elsewhere. -/
theorem St.move {w w' : World} {k : Blks} {id n width : Nat} {last : Int} {ended dec : Bool} {val rnd : Int} {cr : Value} {L I S SH L' I' : List Int} (h : St w k id n width last ended dec val rnd cr L I S SH) {bs : List Nat} (hK : Keeps bs w w')
    (hp : k.bp ∉ bs ∧ k.bv ∉ bs ∧ k.bsh ∉ bs ∧ k.bh ∉ bs ∧ k.bs ∉ bs) (hav : ∀ x ∈ bs, x ∈ k.avoid) (hl : Blk w' k.bl (ints L') 3) (ll : L'.length = n) (hi : Blk w' k.bi (ints I') 3) (li : I'.length = n) :
    St w' k id n width last ended dec val rnd cr L' I' S SH := by
  refine ⟨hK.blk h.p hp.1, hK.blk h.v hp.2.1, hl, ll, hi, li, hK.blk h.sh hp.2.2.1, h.lsh, hK.blk h.h hp.2.2.2.1, hK.blk h.s hp.2.2.2.2, h.ls, ?_, fun x hx => Nat.lt_of_lt_of_le (h.av x hx) hK.size⟩
  rcases h.c with rfl | ⟨bc, C, rfl, hb, hl, h1, h2⟩
  · exact Or.inl rfl
  · exact Or.inr ⟨bc, C, rfl, hK.blk hb (fun hx => h1 (hav _ hx)), hl, h1, h2⟩

/-- How the blocks lie. -/
structure GAp (k : Blks) (B rl rf ri re : Nat) : Prop where
  a : k.apart B
  ex : rl ∈ k.ex ∧ rf ∈ k.ex ∧ ri ∈ k.ex ∧ re ∈ k.ex
  r : RAp B k.br rl rf ri re
  ne : ∀ x ∈ [k.br, rl, rf, ri, re], x ≠ k.bp ∧ x ≠ k.bv ∧ x ≠ k.bsh ∧ x ≠ k.bh ∧ x ≠ k.bs ∧ x ≠ k.bl ∧ x ≠ k.bi
end Go.Proofs.Qxb6613198aDoor
