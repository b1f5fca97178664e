import Derived.Test.Qxb6613198aDoorRec1
import Derived.Test.Qxb6613198aDoorAloop
import Derived.Test.Qxb6613198aDoorLloop
import Derived.Test.Qxb6613198aDoorFloop
import Derived.Test.Qxb6613198aDoorEloop
import Derived.Test.Qxb6613198aDoorZz
import Derived.Test.Qxb6613198aDoorLaw4
namespace Go.Proofs.Qxb6613198aDoor
open Go.ChangeShapes Go.WideShapes Go.ChangeAt Go.RowKit
open Plain
set_option linter.unusedVariables false

theorem BytB.mono {B B' : Nat} {w : World} {v : Value} {l : List UInt8} (h : BytB B w v l) (hB : B ≤ B') : BytB B' w v l := by
  rcases h with ⟨g, o, c, h1, h2, h3, h4⟩ | h
  · exact Or.inl ⟨g, o, c, h1, by omega, h3, h4⟩
  · exact Or.inr h
theorem Inp.mono {B B' : Nat} {w : World} {fo po : Option Addr} {NN : Nat} {ms : List Msg} (h : Inp B w fo po NN ms) (hB : B ≤ B') : Inp B' w fo po NN ms :=
  ⟨h.len, fun i hi => by obtain ⟨g, o, h1, h2, h3⟩ := h.f i hi; exact ⟨g, o, h1, by omega, h3⟩, fun i hi => by obtain ⟨g, o, h1, h2, h3⟩ := h.p i hi; exact ⟨g, o, h1, by omega, h3⟩, fun i hi => ⟨(h.b i hi).1.mono hB, (h.b i hi).2⟩⟩

theorem St.below {w w' : World} {k : Blks} {id n width : Nat} {last : Int} {ended dec : Bool} {val rnd : Int} {cr : Value} {L I S SH : List Int} (h : St w k id n width last ended dec val rnd cr L I S SH) (hb : Below w.heap.size w w') : St w' k id n width last ended dec val rnd cr L I S SH := by
  have g : ∀ {b : Nat} {c : Array Value} {t : TypeId}, Blk w b c t → Blk w' b c t := fun hB => Below.blk' hb hB hB.lt
  refine ⟨g h.p, g h.v, g h.l, h.ll, g h.i, h.li, g h.sh, h.lsh, g h.h, g h.s, h.ls, ?_, fun x hx => Nat.lt_of_lt_of_le (h.av x hx) hb.size⟩
  rcases h.c with rfl | ⟨bc, C, rfl, hb, hl, h1, h2⟩
  · exact Or.inl rfl
  · exact Or.inr ⟨bc, C, rfl, g hb, hl, h1, h2⟩

/-- The six rows, new. -/
def six (w : World) (n : Nat) : World :=
  (((((w.alloc (.cells (bools (List.replicate n false)) 4)).alloc (.cells (ints (List.replicate n 0)) 3)).alloc (.cells (ints (List.replicate n 0)) 3)).alloc (.cells (ints (List.replicate n 0)) 3)).alloc (.cells (ints (List.replicate n 0)) 3)).alloc (.cells (ints (List.replicate n 0)) 3)
theorem md_six (w : World) (n : Nat) : Md w (six w n) w.heap.size w.heap.size (w.heap.size + 1) (w.heap.size + 1 + 1) (w.heap.size + 1 + 1 + 1) (w.heap.size + 1 + 1 + 1 + 1) (w.heap.size + 1 + 1 + 1 + 1 + 1) n (List.replicate n false) (List.replicate n 0) (List.replicate n 0) (List.replicate n 0) (List.replicate n 0) (List.replicate n 0) := by
  have key : ∀ (v : World) (o : Obj) (b : Nat) (c : Array Value) (t : TypeId), Blk v b c t → Blk (v.alloc o) b c t := fun v o b c t h => ((Keeps.refl [] v).alloc o).blk h (by simp)
  have nw : ∀ (v : World) (c : Array Value) (t : TypeId) (m : Nat), m = v.heap.size → Blk (v.alloc (.cells c t)) m c t := fun v c t m hm => by rw [hm]; exact Blk.new v c t
  unfold six
  refine ⟨?_, by simp, ?_, by simp, ?_, by simp, ?_, by simp, ?_, by simp, ?_, by simp, ?_⟩
  · exact key _ _ _ _ _ (key _ _ _ _ _ (key _ _ _ _ _ (key _ _ _ _ _ (key _ _ _ _ _ (nw _ _ _ _ rfl)))))
  · exact key _ _ _ _ _ (key _ _ _ _ _ (key _ _ _ _ _ (key _ _ _ _ _ (nw _ _ _ _ (by simp)))))
  · exact key _ _ _ _ _ (key _ _ _ _ _ (key _ _ _ _ _ (nw _ _ _ _ (by simp))))
  · exact key _ _ _ _ _ (key _ _ _ _ _ (nw _ _ _ _ (by simp)))
  · exact key _ _ _ _ _ (nw _ _ _ _ (by simp))
  · exact nw _ _ _ _ (by simp)
  · exact ((((((Keeps.refl [] w).alloc _).alloc _).alloc _).alloc _).alloc _ |>.alloc _).below (Nat.le_refl _) (by simp)
theorem ap_six (m : Nat) : Ap6 m m (m + 1) (m + 1 + 1) (m + 1 + 1 + 1) (m + 1 + 1 + 1 + 1) (m + 1 + 1 + 1 + 1 + 1) := by
  refine ⟨?_, ?_⟩
  · simp; omega
  · intro x hx; simp at hx; omega

theorem KOf_start (n id : Nat) (hid : id < n) : (List.replicate n false).set id true = KOf (Ls n id 0) := by
  unfold KOf Ls
  rw [List.map_set]
  simp

theorem msgs_of {w0 wA : World} {bm NN : Nat} {fo po : Option Addr} {ms : List Msg} (h : LI w0 wA bm NN ms NN) (hi : Inp bm w0 fo po NN ms) : Msgs wA.heap.size wA bm ms := by
  have hl := hi.len
  have key : ∀ i (hi : i < ms.length) q, q < 3 → wA.cell? ⟨bm, i * 3 + q, none⟩ = some (fld ms[i] q) := fun i hi q hq => by
    refine (h.1.cell (i * 3 + q)).trans ((mA_get ms NN NN (i * 3 + q) (by omega)).trans ?_)
    rw [show (i * 3 + q) / 3 = i by omega, show (i * 3 + q) % 3 = q by omega, if_pos (by omega)]
    simp [List.getD, hi]
  refine ⟨h.2.2, fun i hi => key i hi 0 (by omega), fun i hi => key i hi 1 (by omega), fun i hi => key i hi 2 (by omega), fun i hii => ?_⟩
  obtain ⟨b1, b2⟩ := hi.b i hii
  exact ⟨(b1.below h.2.1).mono (by have := h.2.2; omega), b2⟩

/-- Round 1, as the law meets it. -/
theorem rec_at (wA w2 : World) (k : Blks) (rl rf ri re id n lr bm h NN : Nat) (input : Int) (now : Bool) (cr : Value) (ms : List Msg) (s : PS) (dec' : Bool) (val' rnd' : Int) (hNN : ms.length = NN)
    (hs : s = foldM n (s1 n id input) ms)
    (g : GS w2 k rl rf ri re id n (lr + 1) lr false (decOf now 0) (valOf now input 0) (rndOf now 0) cr (List.replicate (n * (lr + 1)) 0) ⟨Ls n id 0, (List.replicate n 0).set id input, List.replicate n 0, 0⟩)
    (ga : GAp k wA.heap.size rl rf ri re) (hb : Below wA.heap.size wA w2) (hm : Msgs wA.heap.size wA bm ms) (hml : NN ≤ 65536) (h1 : 1 ≤ n) (hn : n ≤ 64) (hid : id < n) (hl1 : 1 ≤ lr) (hl2 : lr ≤ 65536) (hT : TabAt 0 Lib.deBruijn64tab wA)
    (hh : HOk n s.H h) (hd : Dec now (holdsB s.L s.I n) (allB s.L n || alone h id) input dec' val' rnd') :
    Calls Tryd.prog 8 #[.pointer (some ⟨k.bp, 0, none⟩), .int .i64 1, .slice (some ⟨bm, 0, none⟩) NN NN] w2 fun e w' => e = .returned (.tuple #[]) ∧ ∃ cr' S', Hid (St w' k id n (lr + 1) lr (decide ((lr : Int) ≤ 1)) dec' val' rnd' cr' (s.L.set id 1) s.I S' s.S ∧
      S'.getD (id * (lr + 1) + 1) 0 = orBit s.H id ∧ Below wA.heap.size w2 w') := by
  subst hNN
  exact rec_one wA w2 k rl rf ri re id n lr bm h input now cr ms s dec' val' rnd' hs g ga hb hm hml h1 hn hid hl1 hl2 hT hh hd

/-- What the law's last loop needs. -/
theorem last_facts {L : List Int} {n id : Nat} (hL : Low L n) (hid : id < n) : ∀ h, h < n → (L.set id 1).getD h 0 = if h = id then 1 else if (KOf L).getD h false = true then 0 else -1 := by
  intro h hh
  by_cases e : h = id
  · subst e
    rw [if_pos rfl, getD_set_eq _ _ _ (by rw [hL.1]; exact hid)]
  · rw [if_neg e, getD_set_ne _ _ _ _ (Ne.symm e), KOf_get _ _ (by rw [hL.1]; exact hh)]
    have := hL.2 h hh
    by_cases c : 0 ≤ L.getD h 0
    · rw [decide_eq_true c, if_pos rfl]; omega
    · rw [decide_eq_false c, if_neg (by simp)]; omega
theorem fin_of {w0 wx wy : World} {k : Blks} {id n width : Nat} {last : Int} {ended dec : Bool} {val rnd : Int} {cr : Value} {L L' I S S' C X N : List Int} {B bk bi bs bc bx bn : Nat} (q : Nat) (st : St wx k id n width last ended dec val rnd cr L' I S' S) (md : Md w0 wx B bk bi bs bc bx bn n (KOf L) I S C X N) : Fin (wx.drewN q) bk bi bs k.bl k.bi k.bsh n (KOf L) L' I S :=
  ⟨fun h hh => (md.cellK h hh).1, fun h hh => (md.cellI h hh).1, fun h hh => (md.cellS h hh).1,
    fun h hh => (st.l.cell h).trans (ints_get _ h (by rw [st.ll]; exact hh)), fun h hh => (st.i.cell h).trans (ints_get _ h (by rw [st.li]; exact hh)), fun h hh => (st.sh.cell h).trans (ints_get _ h (by rw [st.lsh]; exact hh))⟩
end Go.Proofs.Qxb6613198aDoor
