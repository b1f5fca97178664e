import Derived.Test.Qxb6613198aDoorCrash2
namespace Go.Proofs.Qxb6613198aDoor
open Go.ChangeShapes Go.WideShapes Go.ChangeAt Go.RowKit
open Plain
set_option linter.unusedVariables false

/-- The numbers of the process's blocks. -/
structure Blks where
  bp : Nat
  bv : Nat
  br : Nat
  bsh : Nat
  bl : Nat
  bi : Nat
  bh : Nat
  bs : Nat
  ex : List Nat

def Blks.avoid (k : Blks) : List Nat := k.bp :: k.br :: k.bsh :: k.bl :: k.bi :: k.bh :: k.bs :: k.ex
/-- They are apart from one another and from those of the list, which bears 0 (the table of the library's) and all that lay below B. -/
structure Blks.apart (k : Blks) (B : Nat) : Prop where
  nd : (k.bv :: k.avoid).Nodup
  z : 0 < B
  low : ∀ x, x < B → x ∈ k.ex

/-- The process in memory. -/
structure St (w : World) (k : Blks) (id n width : Nat) (last : Int) (ended dec : Bool) (val rnd : Int) (cr : Value) (L I S SH : List Int) : Prop where
  p : Blk w k.bp (procC id n k.bv k.br k.bsh last ended dec val rnd) 59
  v : Blk w k.bv (viewC n k.bl k.bi k.bh k.bs (n * width) cr) 48
  l : Blk w k.bl (ints L) 3
  ll : L.length = n
  i : Blk w k.bi (ints I) 3
  li : I.length = n
  sh : Blk w k.bsh (ints SH) 3
  lsh : SH.length = n
  h : Blk w k.bh (heardC k.bs n width) 44
  s : Blk w k.bs (u64s S) 34
  ls : S.length = n * width
  c : Crs w k.bv n cr k.avoid
  av : ∀ x ∈ k.avoid, x < w.heap.size

def anySees (L C : List Int) (n m : Nat) : Bool := (List.range (m + 1)).any fun l => seesB L C l n
theorem anySees_no {L C : List Int} {n m : Nat} (h : ∀ l, l ≤ m → seesB L C l n = false) : anySees L C n m = false := by
  rw [Bool.eq_false_iff]
  intro hh
  simp only [anySees, List.any_eq_true, List.mem_range] at hh
  obtain ⟨l, hl, hs⟩ := hh
  rw [h l (by omega)] at hs
  cases hs
theorem anySees_yes {L C : List Int} {n m l : Nat} (hl : l ≤ m) (h : seesB L C l n = true) : anySees L C n m = true := by
  simp only [anySees, List.any_eq_true, List.mem_range]
  exact ⟨l, by omega, h⟩

set_option maxHeartbeats 400000 in
/-- apply (16) of a process that has decided. -/
theorem apply_done (w : World) (k : Blks) (id n width m : Nat) (last : Int) (ended : Bool) (val rnd : Int) (cr : Value) (L I S SH : List Int) (h : St w k id n width last ended true val rnd cr L I S SH) :
    Calls Tryd.prog 16 #[.pointer (some ⟨k.bp, 0, none⟩), .int .i64 m] w fun e w' => e = .returned (.tuple #[]) ∧ w = w' := by
  have c9 := h.p.cell 9
  simp [procC] at c9
  clear h
  go_enter Tryd.func16, Tryd.ntmps16
  go_wp2
  refine bodyPost_ret (results_none rfl _ _ _) rfl ?_
  exact ⟨rfl, rfl⟩

set_option maxHeartbeats 400000 in
/-- apply (16) of a process whose view holds an input 0. -/
theorem apply_zero (w : World) (k : Blks) (id n width m : Nat) (last : Int) (ended : Bool) (val rnd : Int) (cr : Value) (L I S SH : List Int) (h : St w k id n width last ended false val rnd cr L I S SH) (hn : n ≤ 64) (hz : holdsB L I n = true) :
    Calls Tryd.prog 16 #[.pointer (some ⟨k.bp, 0, none⟩), .int .i64 m] w fun e w' => e = .returned (.tuple #[]) ∧ Blk w' k.bp (procC id n k.bv k.br k.bsh last ended true 0 m) 59 ∧ Keeps [k.bp] w w' := by
  have c9 := h.p.cell 9
  have c2 := h.p.cell 2
  simp [procC] at c9 c2
  have HH := hideIt h
  clear h
  go_enter Tryd.func16, Tryd.ntmps16
  go_wp2_with (first | (go_at_call 19; refine (holds_any _ k.bv n k.bl k.bi k.bh k.bs (n * width) cr L I HH.out.v HH.out.l HH.out.i HH.out.ll HH.out.li hn).mono ?_; rintro e w' ⟨rfl, rfl⟩; rw [hz]) | (go_at_call 20; refine (decide_any _ k.bp id n k.bv k.br k.bsh last ended false val rnd 0 m HH.out.p).mono ?_; rintro e w' ⟨rfl, hP, hK⟩))
  refine bodyPost_ret (results_none rfl _ _ _) rfl ?_
  exact ⟨rfl, hP, hK⟩

theorem Blks.apart.ne {k : Blks} {B : Nat} (h : k.apart B) : k.bv ∉ k.avoid := (List.nodup_cons.1 h.nd).1
theorem Blks.apart.zero {k : Blks} {B : Nat} (h : k.apart B) : 0 ∈ k.avoid := by simp [Blks.avoid, h.low 0 h.z]
theorem Blks.apart.ge {k : Blks} {B x : Nat} (h : k.apart B) (hx : x ∉ k.avoid) : B ≤ x := by
  rcases Nat.lt_or_ge x B with c | c
  · exact absurd (by simp [Blks.avoid, h.low x c]) hx
  · exact c

theorem before_succ {L C : List Int} {n j : Nat} (h : ∀ l : Nat, l < j → seesB L C l n = false) (hj : seesB L C j n = false) : ∀ l : Nat, l < j + 1 → seesB L C l n = false := by
  intro l hl
  rcases Nat.lt_or_ge l j with c | c
  · exact h l c
  · obtain rfl : l = j := by omega
    exact hj

set_option maxHeartbeats 1000000 in
/-- apply (16) of a process that has not decided and whose view holds no input 0. -/
theorem apply_see (w : World) (k : Blks) (id n width m H M : Nat) (last : Int) (ended : Bool) (val rnd : Int) (cr : Value) (L I S SH : List Int) (B : Nat) (h : St w k id n width last ended false val rnd cr L I S SH) (ha : k.apart B) (h1 : 1 ≤ n) (hn : n ≤ 64) (hid : id < n)
    (hz : holdsB L I n = false) (hlow : ∀ h, h < n → h ≠ id → L.getD h 0 ≤ 0) (hM : (L.getD id 0 ≤ 0 ∧ M = 0) ∨ (L.getD id 0 = 1 ∧ 1 < width ∧ S.getD (id * width + 1) 0 = (H : Int) ∧ H < 2 ^ 64 ∧ M = missing n H)) (hm : m ≤ 70000) (hT : TabAt 0 Lib.deBruijn64tab w)
    (dec' : Bool) (val' rnd' : Int) (hd : (anySees L (byOf n M) n m = true ∧ dec' = true ∧ val' = 1 ∧ rnd' = m) ∨ (anySees L (byOf n M) n m = false ∧ dec' = false ∧ val' = val ∧ rnd' = rnd)) :
    Calls Tryd.prog 16 #[.pointer (some ⟨k.bp, 0, none⟩), .int .i64 m] w fun e w' => e = .returned (.tuple #[]) ∧ ∃ bc, Blk w' bc (ints (byOf n M)) 3 ∧ Blk w' k.bv (viewC n k.bl k.bi k.bh k.bs (n * width) (.slice (some ⟨bc, 0, none⟩) n n)) 48 ∧ bc ∉ k.avoid ∧ bc ≠ k.bv ∧
      Blk w' k.bp (procC id n k.bv k.br k.bsh last ended dec' val' rnd') 59 ∧ Keeps [k.bp, k.bv, bc] w w' := by
  have c9 := h.p.cell 9
  have c2 := h.p.cell 2
  simp [procC] at c9 c2
  have HH := hideIt h
  have HA := hideIt ha
  have HLOW := hideIt hlow
  have HM := hideIt hM
  have HT := hideIt hT
  have av : ∀ x, x ∈ k.avoid → x ≠ k.bv := fun x hx e => ha.ne (e ▸ hx)
  have AV := hideIt av
  have HD := hideIt hd
  clear h ha hlow hM hT av hd
  go_enter Tryd.func16, Tryd.ntmps16
  go_wp2_with fail
  refine (holds_any _ k.bv n k.bl k.bi k.bh k.bs (n * width) cr L I HH.out.v HH.out.l HH.out.i HH.out.ll HH.out.li hn).mono ?_
  rintro e w' ⟨rfl, rfl⟩
  rw [hz]
  go_wp2_with fail
  refine (crashed_any w k.bv n k.bl k.bi k.bh k.bs (n * width) width id H M cr k.avoid L S HH.out.v h1 hn HH.out.c HH.out.av HH.out.l HH.out.ll HH.out.h HH.out.s HH.out.ls hid HLOW.out HM.out ⟨by simp [Blks.avoid], by simp [Blks.avoid], by simp [Blks.avoid], HA.out.zero⟩ ⟨AV.out _ (by simp [Blks.avoid]), AV.out _ (by simp [Blks.avoid]), AV.out _ (by simp [Blks.avoid]), AV.out _ HA.out.zero⟩ HT.out).mono ?_
  rintro e w1 ⟨bc, rfl, kB, kV, k1, k2, kK⟩
  have nbp : k.bp ∉ [k.bv, bc] := not_two (AV.out _ (by simp [Blks.avoid])) (ne_of_avoid (by simp [Blks.avoid]) k1)
  have nbl : k.bl ∉ [k.bv, bc] := not_two (AV.out _ (by simp [Blks.avoid])) (ne_of_avoid (by simp [Blks.avoid]) k1)
  have kP := kK.blk HH.out.p nbp
  have kL := kK.blk HH.out.l nbl
  have d2 := kP.cell 2
  simp [procC] at d2
  have KB := hideIt kB
  have KV := hideIt kV
  have K1 := hideIt k1
  have K2 := hideIt k2
  have KK := hideIt kK
  have KP := hideIt kP
  have KL := hideIt kL
  clear kB kV k1 k2 kK kP kL nbp nbl c9 c2
  go_wp2
  go_loop [5] (fun i => ∃ j : Nat, j ≤ m + 1 ∧ i = .int .i64 j ∧ Hid (∀ l, l < j → seesB L (byOf n M) l n = false)) (fun i => m + 1 - (intOf i).toNat)
  case atStart => exact ⟨0, by omega, rfl, fun l hl => by omega⟩
  case round =>
    obtain ⟨j, hj, rfl, HN⟩ := hrel
    by_cases hlt : j ≤ m
    · by_cases hs : seesB L (byOf n M) (j : Int) n = true
      · have fin := hideIt (anySees_yes hlt hs)
        go_wp2_with (first | (go_at_call 22; refine (sees_any _ k.bv n k.bl k.bi k.bh k.bs (n * width) bc _ L (byOf n M) j KV.out KL.out KB.out HH.out.ll (byOf_len n M) hn).mono ?_; rintro e w' ⟨rfl, hw⟩; have hw := hw.symm; subst hw; rw [hs]) | (go_at_call 20; refine (decide_any _ k.bp id n k.bv k.br k.bsh last ended false val rnd 1 m KP.out).mono ?_; rintro e w2 ⟨rfl, hP, hK⟩))
        refine bodyPost_ret (results_none rfl _ _ _) rfl ?_
        refine ⟨rfl, bc, hK.blk KB.out (by simpa using Ne.symm (ne_of_avoid (a := k.bp) (by simp [Blks.avoid]) K1.out)), hK.blk KV.out (by simpa using Ne.symm (AV.out k.bp (by simp [Blks.avoid]))), K1.out, K2.out, ?_, (KK.out.mono (by simp)).trans (hK.mono (by simp))⟩
        rcases HD.out with ⟨_, rfl, rfl, rfl⟩ | ⟨h, _⟩
        · exact hP
        · rw [fin.out] at h; cases h
      · have hs' : seesB L (byOf n M) (j : Int) n = false := by simpa using hs
        clear hs
        go_wp2_with (go_at_call 22; refine (sees_any _ k.bv n k.bl k.bi k.bh k.bs (n * width) bc _ L (byOf n M) j KV.out KL.out KB.out HH.out.ll (byOf_len n M) hn).mono ?_; rintro e w' ⟨rfl, hw⟩; have hw := hw.symm; subst hw; rw [hs'])
        go_round
        case rel => exact ⟨j + 1, by omega, by go_num, before_succ HN.out hs'⟩
        case measure => simp [intOf]; omega
    · have fin := hideIt (anySees_no (L := L) (C := byOf n M) (n := n) (m := m) fun l hl => HN.out l (by omega))
      go_wp2
      go_end0
      refine ⟨rfl, bc, KB.out, KV.out, K1.out, K2.out, ?_, KK.out.mono (by simp)⟩
      rcases HD.out with ⟨h, _⟩ | ⟨_, rfl, rfl, rfl⟩
      · rw [fin.out] at h; cases h
      · exact KP.out

/-! ### The same, told by the state -/
/-- All pairs that are wanted. -/
structure Blks.Pairs (k : Blks) : Prop where
  pv : k.bp ≠ k.bv
  shv : k.bsh ≠ k.bv
  lv : k.bl ≠ k.bv
  iv : k.bi ≠ k.bv
  hv : k.bh ≠ k.bv
  sv : k.bs ≠ k.bv
  psh : k.bp ≠ k.bsh
  pl : k.bp ≠ k.bl
  pi : k.bp ≠ k.bi
  ph : k.bp ≠ k.bh
  ps : k.bp ≠ k.bs
  shl : k.bsh ≠ k.bl
  shi : k.bsh ≠ k.bi
  shh : k.bsh ≠ k.bh
  shs : k.bsh ≠ k.bs
  li : k.bl ≠ k.bi
  lh : k.bl ≠ k.bh
  ls : k.bl ≠ k.bs
  ih : k.bi ≠ k.bh
  is : k.bi ≠ k.bs
  hs : k.bh ≠ k.bs

theorem Blks.apart.pairs {k : Blks} {B : Nat} (h : k.apart B) : k.Pairs := by
  have := h.nd
  simp only [Blks.avoid, List.nodup_cons, List.mem_cons, not_or] at this
  obtain ⟨⟨a1, a2, a3, a4, a5, a6, a7, _⟩, ⟨b1, b2, b3, b4, b5, b6, _⟩, _, ⟨d1, d2, d3, d4, _⟩, ⟨e1, e2, e3, _⟩, ⟨f1, f2, _⟩, ⟨g1, _⟩, _⟩ := this
  exact ⟨Ne.symm a1, Ne.symm a3, Ne.symm a4, Ne.symm a5, Ne.symm a6, Ne.symm a7, b2, b3, b4, b5, b6, d1, d2, d3, d4, e1, e2, e3, f1, f2, g1⟩

theorem Blks.apart.above {k : Blks} {B : Nat} (h : k.apart B) : B ≤ k.bp ∧ B ≤ k.bv ∧ B ≤ k.bsh ∧ B ≤ k.bl ∧ B ≤ k.bi ∧ B ≤ k.bh ∧ B ≤ k.bs := by
  have hn := h.nd
  simp only [Blks.avoid, List.nodup_cons, List.mem_cons, not_or] at hn
  have g : ∀ x, x ∉ k.ex → B ≤ x := fun x hx => by
    rcases Nat.lt_or_ge x B with c | c
    · exact absurd (h.low x c) hx
    · exact c
  refine ⟨g _ ?_, g _ ?_, g _ ?_, g _ ?_, g _ ?_, g _ ?_, g _ ?_⟩
  all_goals simp [hn]

theorem below_of {k : Blks} {B : Nat} {w w' : World} (h : k.apart B) {ks : List Nat} (hk : Keeps ks w w') (hB : B ≤ w.heap.size) (hs : ∀ x ∈ ks, B ≤ x) : Below B w w' := hk.below hB hs

/-- apply leaves the state as it was, but for the decision and the row of 'crashed'. -/
def Applies (w : World) (k : Blks) (B id n width m : Nat) (last : Int) (ended : Bool) (L I S SH : List Int) (dec' : Bool) (val' rnd' : Int) : Prop :=
  Calls Tryd.prog 16 #[.pointer (some ⟨k.bp, 0, none⟩), .int .i64 m] w fun e w' => e = .returned (.tuple #[]) ∧ ∃ cr', St w' k id n width last ended dec' val' rnd' cr' L I S SH ∧ Below B w w'

theorem applies_done (w : World) (k : Blks) (B id n width m : Nat) (last : Int) (ended : Bool) (val rnd : Int) (cr : Value) (L I S SH : List Int) (h : St w k id n width last ended true val rnd cr L I S SH) :
    Applies w k B id n width m last ended L I S SH true val rnd := by
  refine (apply_done w k id n width m last ended val rnd cr L I S SH h).mono ?_
  rintro e w' ⟨rfl, rfl⟩
  exact ⟨rfl, cr, h, Below.refl _ _⟩

theorem applies_zero (w : World) (k : Blks) (B id n width m : Nat) (last : Int) (ended : Bool) (val rnd : Int) (cr : Value) (L I S SH : List Int) (h : St w k id n width last ended false val rnd cr L I S SH) (ha : k.apart B) (hB : B ≤ w.heap.size) (hn : n ≤ 64) (hz : holdsB L I n = true) :
    Applies w k B id n width m last ended L I S SH true 0 m := by
  refine (apply_zero w k id n width m last ended val rnd cr L I S SH h hn hz).mono ?_
  rintro e w' ⟨rfl, hP, hK⟩
  have p := ha.pairs
  have g : ∀ x, x ≠ k.bp → x ∉ [k.bp] := fun x hx => by simpa using hx
  refine ⟨rfl, cr, ⟨hP, hK.blk h.v (g _ (Ne.symm p.pv)), hK.blk h.l (g _ (Ne.symm p.pl)), h.ll, hK.blk h.i (g _ (Ne.symm p.pi)), h.li, hK.blk h.sh (g _ (Ne.symm p.psh)), h.lsh, hK.blk h.h (g _ (Ne.symm p.ph)), hK.blk h.s (g _ (Ne.symm p.ps)), h.ls, ?_, fun x hx => Nat.lt_of_lt_of_le (h.av x hx) hK.size⟩, hK.below hB (by have := ha.above; simp; omega)⟩
  rcases h.c with rfl | ⟨bc, C, rfl, hb, hl, h1, h2⟩
  · exact Or.inl rfl
  · exact Or.inr ⟨bc, C, rfl, hK.blk hb (g _ (fun e => h1 (by rw [e]; simp [Blks.avoid]))), hl, h1, h2⟩

theorem applies_see (w : World) (k : Blks) (B id n width m H M : Nat) (last : Int) (ended : Bool) (val rnd : Int) (cr : Value) (L I S SH : List Int) (h : St w k id n width last ended false val rnd cr L I S SH) (ha : k.apart B) (hB : B ≤ w.heap.size) (h1 : 1 ≤ n) (hn : n ≤ 64) (hid : id < n)
    (hz : holdsB L I n = false) (hlow : ∀ h, h < n → h ≠ id → L.getD h 0 ≤ 0) (hM : (L.getD id 0 ≤ 0 ∧ M = 0) ∨ (L.getD id 0 = 1 ∧ 1 < width ∧ S.getD (id * width + 1) 0 = (H : Int) ∧ H < 2 ^ 64 ∧ M = missing n H)) (hm : m ≤ 70000) (hT : TabAt 0 Lib.deBruijn64tab w)
    (dec' : Bool) (val' rnd' : Int) (hd : (anySees L (byOf n M) n m = true ∧ dec' = true ∧ val' = 1 ∧ rnd' = m) ∨ (anySees L (byOf n M) n m = false ∧ dec' = false ∧ val' = val ∧ rnd' = rnd)) :
    Applies w k B id n width m last ended L I S SH dec' val' rnd' := by
  refine (apply_see w k id n width m H M last ended val rnd cr L I S SH B h ha h1 hn hid hz hlow hM hm hT dec' val' rnd' hd).mono ?_
  rintro e w' ⟨rfl, bc, kB, kV, k1, k2, hP, hK⟩
  have p := ha.pairs
  have g : ∀ x, x ∈ k.avoid → x ≠ k.bp → x ≠ k.bv → x ∉ [k.bp, k.bv, bc] := fun x hx e1 e2 => by
    have := ne_of_avoid hx k1
    simp [e1, e2, this]
  refine ⟨rfl, _, ⟨hP, kV, hK.blk h.l (g _ (by simp [Blks.avoid]) (Ne.symm p.pl) p.lv), h.ll, hK.blk h.i (g _ (by simp [Blks.avoid]) (Ne.symm p.pi) p.iv), h.li, hK.blk h.sh (g _ (by simp [Blks.avoid]) (Ne.symm p.psh) p.shv), h.lsh, hK.blk h.h (g _ (by simp [Blks.avoid]) (Ne.symm p.ph) p.hv), hK.blk h.s (g _ (by simp [Blks.avoid]) (Ne.symm p.ps) p.sv), h.ls,
    Or.inr ⟨bc, byOf n M, rfl, kB, byOf_len n M, k1, k2⟩, fun x hx => Nat.lt_of_lt_of_le (h.av x hx) hK.size⟩, hK.below hB ?_⟩
  have a := ha.above
  have b := ha.ge k1
  intro x hx
  simp only [List.mem_cons, List.not_mem_nil, or_false] at hx
  omega
end Go.Proofs.Qxb6613198aDoor
