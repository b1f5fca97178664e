import Derived.Test.Qxb6613198aDoorGath
namespace Go.Proofs.Qxb6613198aDoor
open Go.ChangeShapes Go.WideShapes Go.ChangeAt Go.RowKit
open Plain
set_option linter.unusedVariables false

theorem ent_ok {l r : List UInt8} {e : Ent} (h : ent l = some (e, r)) : e.ok := by
  unfold ent at h
  split at h
  · cases h
  · rename_i c k hs
    have b1 := small_bound hs
    split at h
    · cases h; exact Or.inl ⟨rfl, rfl, rfl⟩
    · split at h
      · cases h
      · rename_i x k2 hs2
        split at h
        · cases h; exact Or.inr (Or.inl ⟨rfl, rfl, rfl⟩)
        · split at h
          · cases h
          · rename_i v k3 hs3
            have b3 := small_bound hs3
            cases h; exact Or.inr (Or.inr ⟨rfl, rfl, b3.1⟩)

theorem parse_ok : ∀ (n : Nat) (l r : List UInt8) (es : List Ent), parse n l = some (es, r) → es.length = n ∧ ∀ e ∈ es, e.ok
  | 0, l, r, es, h => by simp [parse] at h; obtain ⟨rfl, _⟩ := h; simp
  | n + 1, l, r, es, h => by
    unfold parse at h
    split at h
    · cases h
    · rename_i e r1 he
      split at h
      · cases h
      · rename_i es' r2 hp
        cases h
        obtain ⟨a, b⟩ := parse_ok n r1 _ es' hp
        refine ⟨by simp [a], fun x hx => ?_⟩
        rcases List.mem_cons.1 hx with rfl | hx
        · exact ent_ok he
        · exact b x hx

theorem msgEs_ok {n : Nat} {f : Int} {l : List UInt8} {es : List Ent} (h : msgEs n f l = some es) : (0 ≤ f ∧ f < n) ∧ es.length = n ∧ ∀ e ∈ es, e.ok := by
  unfold msgEs at h
  split at h
  · rename_i hf
    split at h
    · rename_i es' hp
      split at h
      · cases h
        exact ⟨hf, parse_ok _ _ _ _ hp⟩
      · cases h
    · cases h
  · cases h

/-- L holds -1 and 0 alone. -/
def Low (L : List Int) (n : Nat) : Prop := L.length = n ∧ ∀ h, h < n → -1 ≤ L.getD h 0 ∧ L.getD h 0 ≤ 0
theorem takeL_get (es : List Ent) (L : List Int) (h : Nat) (hh : h < L.length) : (takeL es L).getD h 0 = max (L.getD h 0) (((entAt es h).c : Int) - 1) := by
  simp [takeL, List.getD, hh]
theorem takeI_get (es : List Ent) (L I : List Int) (h : Nat) (hh : h < I.length) : (takeI es L I).getD h 0 = if L.getD h 0 < ((entAt es h).c : Int) - 1 then ((entAt es h).v : Int) else I.getD h 0 := by
  simp [takeI, List.getD, hh]
theorem takeL_len (es : List Ent) (L : List Int) : (takeL es L).length = L.length := by simp [takeL]
theorem takeI_len (es : List Ent) (L I : List Int) : (takeI es L I).length = I.length := by simp [takeI]
theorem minS_len (es : List Ent) (S : List Int) : (minS es S).length = S.length := by simp [minS]
theorem tookL_len (es : List Ent) (L : List Int) (n : Nat) : (tookL es L n).length = L.length := by unfold tookL; split <;> simp [takeL_len]
theorem tookI_len (es : List Ent) (L I : List Int) (n : Nat) : (tookI es L I n).length = I.length := by unfold tookI; split <;> simp [takeI_len]

theorem Low.step {s : PS} {n : Nat} (h : Low s.L n) (f : Int) (l : List UInt8) : Low (stepM n s f l).L n := by
  unfold stepM
  split
  · exact h
  · rename_i es hes
    obtain ⟨_, hlen, hok⟩ := msgEs_ok hes
    split
    · refine ⟨by simp [takeL_len, h.1], fun j hj => ?_⟩
      show -1 ≤ (takeL es s.L).getD j 0 ∧ (takeL es s.L).getD j 0 ≤ 0
      rw [takeL_get _ _ _ (by rw [h.1]; exact hj)]
      have a := h.2 j hj
      rcases entAt_ok hok j (by omega) with b | b | b <;> omega
    · exact h

/-- A message as it lies in memory. -/
structure Msg where
  f : Int
  t : Int
  pv : Value
  l : List UInt8
structure Msgs (B : Nat) (w : World) (bm : Nat) (ms : List Msg) : Prop where
  lt : bm < B
  f : ∀ i (hi : i < ms.length), w.cell? ⟨bm, i * 3, none⟩ = some (.int .i64 ms[i].f)
  t : ∀ i (hi : i < ms.length), w.cell? ⟨bm, i * 3 + 1, none⟩ = some (.int .i64 ms[i].t)
  p : ∀ i (hi : i < ms.length), w.cell? ⟨bm, i * 3 + 2, none⟩ = some ms[i].pv
  b : ∀ i (hi : i < ms.length), BytB B w ms[i].pv ms[i].l ∧ ms[i].l.length ≤ 1048576
theorem Msgs.below {B bm : Nat} {w w' : World} {ms : List Msg} (h : Msgs B w bm ms) (hb : Below B w w') : Msgs B w' bm ms :=
  ⟨h.lt, fun i hi => by rw [hb.cell h.lt]; exact h.f i hi, fun i hi => by rw [hb.cell h.lt]; exact h.t i hi, fun i hi => by rw [hb.cell h.lt]; exact h.p i hi, fun i hi => ⟨(h.b i hi).1.below hb, (h.b i hi).2⟩⟩

def foldM (n : Nat) (s : PS) (ms : List Msg) : PS := ms.foldl (fun s m => stepM n s m.f m.l) s
theorem foldM_take (n : Nat) (s : PS) (ms : List Msg) (j : Nat) (hj : j < ms.length) : foldM n s (ms.take (j + 1)) = stepM n (foldM n s (ms.take j)) ms[j].f ms[j].l := by
  unfold foldM
  rw [List.take_add_one, List.foldl_append]
  simp [hj]

/-- The whole state in gather. -/
structure GS (w : World) (k : Blks) (rl rf ri re id n width : Nat) (last : Int) (ended dec : Bool) (val rnd : Int) (cr : Value) (S : List Int) (s : PS) : Prop where
  st : St w k id n width last ended dec val rnd cr s.L s.I S s.S
  rc : ∃ RL RF RI, Rcv w n k.br rl rf ri re RL RF RI
  low : Low s.L n

/-- decode, as gather meets it. -/
theorem decode_at (w wx : World) (k : Blks) (B rl rf ri re id n width mb : Nat) (last : Int) (ended dec : Bool) (val rnd : Int) (cr : Value) (S : List Int) (s : PS) (f t : Int) (pv : Value) (l : List UInt8)
    (h : GS wx k rl rf ri re id n width last ended dec val rnd cr S s) (ha : GAp k B rl rf ri re) (hB : B ≤ wx.heap.size) (hb : Below B w wx) (hpv : BytB B w pv l) (hl : l.length ≤ 1048576) (hm : Blk wx mb #[.int .i64 f, .int .i64 t, pv] 28) (hmb : mb ∉ k.avoid) (h1 : 1 ≤ n) (hn : n ≤ 64) :
    Calls Tryd.prog 23 #[.pointer (some ⟨k.br, 0, none⟩), pv, .int .i64 f, .int .i64 0] wx fun e w' => e = .returned (.bool (msgEs n f l).isSome) ∧
      (w'.cell? ⟨k.bp, 3, none⟩ = some (.pointer (some ⟨k.br, 0, none⟩)) ∧ w'.cell? ⟨k.bp, 2, none⟩ = some (.pointer (some ⟨k.bv, 0, none⟩)) ∧ w'.cell? ⟨mb, 2, none⟩ = some pv ∧ w'.cell? ⟨mb, 0, none⟩ = some (.int .i64 f)) ∧
      Hid (GS w' k rl rf ri re id n width last ended dec val rnd cr S s ∧ (∀ es, msgEs n f l = some es → ∃ RL RF RI, Rcv w' n k.br rl rf ri re RL RF RI ∧ es.length = n ∧ Says es RL RF RI) ∧ Below B w w' ∧ Blk w' mb #[.int .i64 f, .int .i64 t, pv] 28 ∧ wx.heap.size ≤ w'.heap.size) := by
  obtain ⟨RL, RF, RI, hr⟩ := h.rc
  refine (decode_any wx B n k.br rl rf ri re f pv l RL RF RI hr ha.r hB (hpv.below hb) hl h1 hn).mono ?_
  rintro e w' ⟨rfl, RL', RF', RI', hr', hs, hK⟩
  have hav : ∀ x ∈ [k.br, rl, rf, ri, re], x ∈ k.avoid := by
    intro x hx
    have := ha.ex
    simp at hx
    simp [Blks.avoid]
    rcases hx with rfl | rfl | rfl | rfl | rfl <;> simp [this]
  have nin : ∀ x, (∀ y ∈ [k.br, rl, rf, ri, re], y ≠ x) → x ∉ [k.br, rl, rf, ri, re] := fun x hx hm => hx x hm rfl
  have st' := h.st.move hK ⟨nin _ fun y hy => (ha.ne y hy).1, nin _ fun y hy => (ha.ne y hy).2.1, nin _ fun y hy => (ha.ne y hy).2.2.1, nin _ fun y hy => (ha.ne y hy).2.2.2.1, nin _ fun y hy => (ha.ne y hy).2.2.2.2.1⟩ hav
    (hK.blk h.st.l (nin _ fun y hy => (ha.ne y hy).2.2.2.2.2.1)) h.st.ll (hK.blk h.st.i (nin _ fun y hy => (ha.ne y hy).2.2.2.2.2.2)) h.st.li
  have hm' := hK.blk hm (fun hx => hmb (hav _ hx))
  refine ⟨rfl, ⟨(st'.p.cell 3).trans rfl, (st'.p.cell 2).trans rfl, (hm'.cell 2).trans rfl, (hm'.cell 0).trans rfl⟩, ⟨st', ⟨RL', RF', RI', hr'⟩, h.low⟩, fun es hes => ⟨RL', RF', RI', hr', hs es hes⟩, hb.trans (hK.below hB ha.r.ge), hm', hK.size⟩

/-- take, as gather meets it. -/
theorem take_at (w wx : World) (k : Blks) (B rl rf ri re id n width mb : Nat) (last : Int) (ended dec : Bool) (val rnd : Int) (cr : Value) (S : List Int) (s : PS) (f t : Int) (pv : Value) (l : List UInt8) (es : List Ent) (hes : msgEs n f l = some es)
    (h : GS wx k rl rf ri re id n width last ended dec val rnd cr S s) (hs : ∃ RL RF RI, Rcv wx n k.br rl rf ri re RL RF RI ∧ es.length = n ∧ Says es RL RF RI) (ha : GAp k B rl rf ri re) (hB : B ≤ wx.heap.size) (hb : Below B w wx) (hm : Blk wx mb #[.int .i64 f, .int .i64 t, pv] 28) (hmb : mb ∉ k.avoid) (hn : n ≤ 64) (hw : 2 ≤ width) (hw2 : width ≤ 70000) :
    Calls Tryd.prog 24 #[.pointer (some ⟨k.bv, 0, none⟩), .pointer (some ⟨k.br, 0, none⟩)] wx fun e w' => e = .returned (.bool (okT es s.L n)) ∧
      (w'.cell? ⟨k.bp, 3, none⟩ = some (.pointer (some ⟨k.br, 0, none⟩)) ∧ w'.cell? ⟨k.bp, 2, none⟩ = some (.pointer (some ⟨k.bv, 0, none⟩)) ∧ w'.cell? ⟨mb, 2, none⟩ = some pv ∧ w'.cell? ⟨mb, 0, none⟩ = some (.int .i64 f)) ∧
      Hid (St w' k id n width last ended dec val rnd cr (tookL es s.L n) (tookI es s.L s.I n) S s.S ∧ (∃ RL RF RI, Rcv w' n k.br rl rf ri re RL RF RI ∧ es.length = n ∧ Says es RL RF RI) ∧ Below B w w' ∧ Blk w' mb #[.int .i64 f, .int .i64 t, pv] 28 ∧ wx.heap.size ≤ w'.heap.size) := by
  obtain ⟨RL, RF, RI, hr, he, hsy⟩ := hs
  have p := ha.a.pairs
  refine (take_any wx n width k.br rl rf ri re k.bv k.bl k.bi k.bh k.bs (n * width) cr s.L s.I RL RF RI es hr hsy he (msgEs_ok hes).2.2 h.st.v h.st.l h.st.ll h.st.i h.st.li h.st.h hw hw2 hn h.low.2 ?_ p.li).mono ?_
  · intro x hx
    have g : x ∈ [k.br, rl, rf, ri, re] ∨ x = k.bv ∨ x = k.bh := by simp at hx ⊢; omega
    rcases g with g | rfl | rfl
    · exact (ha.ne x g).2.2.2.2.2
    · exact ⟨Ne.symm p.lv, Ne.symm p.iv⟩
    · exact ⟨Ne.symm p.lh, Ne.symm p.ih⟩
  · rintro e w' ⟨rfl, hL, hI, hK⟩
    have hav : ∀ x ∈ [k.bl, k.bi], x ∈ k.avoid := by
      intro x hx
      simp at hx
      rcases hx with rfl | rfl <;> simp [Blks.avoid]
    have st' := h.st.move hK (by simp [p.pl, p.pi, Ne.symm p.lv, Ne.symm p.iv, p.shl, p.shi, Ne.symm p.lh, Ne.symm p.ih, Ne.symm p.ls, Ne.symm p.is]) hav hL (by rw [tookL_len]; exact h.st.ll) hI (by rw [tookI_len]; exact h.st.li)
    have hm' := hK.blk hm (fun hx => hmb (hav _ hx))
    have g : ∀ x ∈ [k.br, rl, rf, ri, re], x ∉ [k.bl, k.bi] := fun x hx => by
      have := (ha.ne x hx).2.2.2.2.2
      simp [this]
    have ab := ha.a.above
    refine ⟨rfl, ⟨(st'.p.cell 3).trans rfl, (st'.p.cell 2).trans rfl, (hm'.cell 2).trans rfl, (hm'.cell 0).trans rfl⟩, st', ⟨RL, RF, RI, ⟨hK.blk hr.r (g _ (by simp)), hK.blk hr.l (g _ (by simp)), hr.ll, hK.blk hr.f (g _ (by simp)), hr.lf, hK.blk hr.i (g _ (by simp)), hr.li, hK.blk hr.e (g _ (by simp))⟩, he, hsy⟩, hb.trans (hK.below hB (by simp; omega)), hm', hK.size⟩
end Go.Proofs.Qxb6613198aDoor
