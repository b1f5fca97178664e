import Derived.Test.Qxb6613198aDoorBase
import Derived.Test.Qxb6613198aDoorShelf
namespace Go.Proofs.Qxb6613198aDoor
open Go.ChangeShapes Go.WideShapes Go.ChangeAt Go.RowKit
open Plain
set_option linter.unusedVariables false

/-! ### One varint of value 0 or 1 -/
def small (l : List UInt8) : Option (Nat × Nat) := if 0 < (Lib.uvarintDec l).2 ∧ (Lib.uvarintDec l).1 ≤ 1 then some ((Lib.uvarintDec l).1, (Lib.uvarintDec l).2.toNat) else none

theorem from_ge : ∀ (l : List UInt8) (i acc : Nat), (Lib.uvarintFrom i acc l).2 ≤ 0 ∨ acc ≤ (Lib.uvarintFrom i acc l).1
  | [], i, acc => by simp [Lib.uvarintFrom]
  | b :: r, i, acc => by
    unfold Lib.uvarintFrom
    by_cases h1 : i = 10
    · rw [if_pos h1]; left; simp; omega
    · rw [if_neg h1]
      by_cases h2 : b.toNat < 128
      · rw [if_pos h2]
        by_cases h3 : i = 9 ∧ 1 < b.toNat
        · rw [if_pos h3]; left; simp; omega
        · rw [if_neg h3]; right; simp
      · rw [if_neg h2]
        rcases from_ge r (i + 1) (acc + b.toNat % 128 * 2 ^ (7 * i)) with h | h
        · exact Or.inl h
        · exact Or.inr (Nat.le_trans (Nat.le_add_right _ _) h)

theorem from_size : ∀ (l : List UInt8) (i acc : Nat), (Lib.uvarintFrom i acc l).2 ≤ (i + l.length : Nat)
  | [], i, acc => by simp [Lib.uvarintFrom]
  | b :: r, i, acc => by
    unfold Lib.uvarintFrom
    by_cases h1 : i = 10
    · rw [if_pos h1]; simp; omega
    · rw [if_neg h1]
      by_cases h2 : b.toNat < 128
      · rw [if_pos h2]
        by_cases h3 : i = 9 ∧ 1 < b.toNat
        · rw [if_pos h3]; simp; omega
        · rw [if_neg h3]; simp; omega
      · rw [if_neg h2]
        have := from_size r (i + 1) (acc + b.toNat % 128 * 2 ^ (7 * i))
        simp only [List.length_cons]
        omega

theorem dec_size (l : List UInt8) : (Lib.uvarintDec l).2 ≤ (l.length : Nat) := by
  have := from_size l 0 0
  simpa [Lib.uvarintDec] using this

/-- What is left, i bytes read, their value v (0 or 1). -/
theorem small_end (l r : List UInt8) (i v : Nat) (h : Lib.uvarintDec l = Lib.uvarintFrom i v []) : small l = none := by
  unfold small
  rw [h, if_neg (by simp [Lib.uvarintFrom])]

theorem small_ten (l r : List UInt8) (v : Nat) (h : Lib.uvarintDec l = Lib.uvarintFrom 10 v r) : small l = none := by
  unfold small
  rw [h]
  cases r <;> rw [if_neg (by simp [Lib.uvarintFrom])]

theorem small_low (l r : List UInt8) (i v : Nat) (b : UInt8) (hi : i ≤ 9) (hv : v ≤ 1) (h : Lib.uvarintDec l = Lib.uvarintFrom i v (b :: r)) (hb : b.toNat = 0) : small l = some (v, i + 1) := by
  have e : Lib.uvarintFrom i v (b :: r) = (v, (i : Int) + 1) := by
    unfold Lib.uvarintFrom
    rw [if_neg (by omega), if_pos (by omega), if_neg (by omega), hb]
    simp
  unfold small
  rw [h, e, if_pos ⟨by show (0 : Int) < _; omega, hv⟩]
  rfl

theorem small_one (l r : List UInt8) (b : UInt8) (h : l = b :: r) (hb : b.toNat ≤ 1) : small l = some (b.toNat, 1) := by
  have e : Lib.uvarintDec l = (b.toNat, 1) := by
    rw [h]
    unfold Lib.uvarintDec Lib.uvarintFrom
    rw [if_neg (by omega), if_pos (by omega), if_neg (by omega)]
    simp
  unfold small
  rw [e, if_pos ⟨by show (0 : Int) < 1; decide, hb⟩]
  rfl

theorem small_bad (l r : List UInt8) (i v : Nat) (b : UInt8) (h : Lib.uvarintDec l = Lib.uvarintFrom i v (b :: r)) (h0 : 2 ≤ b.toNat ∨ (1 ≤ i ∧ 1 ≤ b.toNat)) (h1 : b.toNat ≠ 128) (h2 : b.toNat ≠ 129 ∨ 1 ≤ i) : small l = none := by
  have hp : 1 ≤ 2 ^ (7 * i) := Nat.one_le_two_pow
  have hp2 : 1 ≤ i → 2 ≤ 2 ^ (7 * i) := fun hi => by
    calc 2 = 2 ^ 1 := rfl
      _ ≤ 2 ^ (7 * i) := Nat.pow_le_pow_right (by omega) (by omega)
  have big : ∀ c : Nat, 2 ≤ c ∨ (1 ≤ i ∧ 1 ≤ c) → 2 ≤ c * 2 ^ (7 * i) := by
    intro c hc
    rcases hc with hc | ⟨hi, hc⟩
    · exact Nat.le_trans (by omega) (Nat.mul_le_mul hc hp)
    · exact Nat.le_trans (by omega) (Nat.mul_le_mul hc (hp2 hi))
  have key : (Lib.uvarintFrom i v (b :: r)).2 ≤ 0 ∨ 2 ≤ (Lib.uvarintFrom i v (b :: r)).1 := by
    unfold Lib.uvarintFrom
    by_cases h3 : i = 10
    · rw [if_pos h3]; left; simp; omega
    · rw [if_neg h3]
      by_cases h4 : b.toNat < 128
      · rw [if_pos h4]
        by_cases h5 : i = 9 ∧ 1 < b.toNat
        · rw [if_pos h5]; left; simp; omega
        · rw [if_neg h5]; right
          have := big b.toNat h0
          show 2 ≤ v + b.toNat * 2 ^ (7 * i)
          omega
      · rw [if_neg h4]
        have hb := b.toNat_lt
        have := big (b.toNat % 128) (by omega)
        rcases from_ge r (i + 1) (v + b.toNat % 128 * 2 ^ (7 * i)) with h | h
        · exact Or.inl h
        · exact Or.inr (by omega)
  unfold small
  rw [h, if_neg (by omega)]

theorem small_bound {l : List UInt8} {c k : Nat} (h : small l = some (c, k)) : c ≤ 1 ∧ 1 ≤ k ∧ k ≤ l.length := by
  unfold small at h
  have := dec_size l
  split at h
  · rename_i g
    cases h
    omega
  · cases h

/-- v is a slice of the bytes l. -/
def Byts (w : World) (v : Value) (l : List UInt8) : Prop :=
  (∃ g o c, v = .slice (some ⟨g, o, none⟩) l.length c ∧ l.length ≤ c ∧ ∀ j (hj : j < l.length), w.cell? ⟨g, o + j, none⟩ = some (.int .u8 (l[j]).toNat)) ∨ (l = [] ∧ ∃ ao c, v = .slice ao 0 c)

/-- What zzb1Small answers. -/
def smallR (l : List UInt8) (pos : Nat) : Array Value := match small (l.drop pos) with
  | some (c, k) => #[.int .i64 c, .int .i64 ((pos + k : Nat) : Int), .bool true]
  | none => #[.int .i64 0, .int .i64 pos, .bool false]
theorem smallR_some {l : List UInt8} {pos c k : Nat} (h : small (l.drop pos) = some (c, k)) : smallR l pos = #[.int .i64 c, .int .i64 ((pos + k : Nat) : Int), .bool true] := by unfold smallR; rw [h]
theorem smallR_none {l : List UInt8} {pos : Nat} (h : small (l.drop pos) = none) : smallR l pos = #[.int .i64 0, .int .i64 pos, .bool false] := by unfold smallR; rw [h]

set_option maxHeartbeats 2000000 in
theorem small_slice (w : World) (g o n c : Nat) (l : List UInt8) (pos : Nat) (hl : l.length = n) (hn : n ≤ 1048576) (hp : pos ≤ n) (hcell : ∀ j (hj : j < l.length), w.cell? ⟨g, o + j, none⟩ = some (.int .u8 (l[j]).toNat)) :
    Calls Tryd.prog 9 #[.slice (some ⟨g, o, none⟩) n c, .int .i64 pos] w fun e w' => e = .returned (.tuple (smallR l pos)) ∧ w = w' := by
  have HC := hideIt hcell
  have HL := hideIt hl
  clear hcell hl
  by_cases hlt : pos < n
  · have hpl : pos < l.length := by rw [HL.out]; exact hlt
    have hdrop : l.drop pos = l[pos] :: l.drop (pos + 1) := List.drop_eq_getElem_cons hpl
    have c0 := HC.out pos hpl
    obtain ⟨b, hb⟩ : ∃ b, b = l[pos] := ⟨_, rfl⟩
    rw [← hb] at c0 hdrop
    have hb256 : b.toNat < 256 := b.toNat_lt
    obtain ⟨bn, hbn⟩ : ∃ bn : Nat, bn = b.toNat := ⟨_, rfl⟩
    rw [← hbn] at c0 hb256
    have HD := hideIt hdrop
    have HBN := hideIt hbn
    clear hdrop hbn hb hpl
    by_cases q0 : bn ≤ 1
    · have hs := hideIt (smallR_some (small_one _ _ b HD.out (by rw [← HBN.out]; exact q0)))
      rw [← HBN.out] at hs
      rcases (show bn = 0 ∨ bn = 1 by omega) with rfl | rfl
      all_goals
        go_enter Tryd.func9, Tryd.ntmps9
        go_wp2
        go_ret3
        rw [hs.out]
        exact ⟨rfl, rfl⟩
    · by_cases q1 : bn ≠ 128 ∧ bn ≠ 129
      · have hs := hideIt (smallR_none (small_bad _ _ 0 0 b (by rw [HD.out]; rfl) (by rw [← HBN.out]; omega) (by rw [← HBN.out]; omega) (by rw [← HBN.out]; omega)))
        have b0 : ((bn : Int) == 0) = false := beq_eq_false_iff_ne.2 (by omega)
        have b1 : ((bn : Int) == 1) = false := beq_eq_false_iff_ne.2 (by omega)
        have b2 : ((bn : Int) != 128) = true := bne_iff_ne.2 (by omega)
        have b3 : ((bn : Int) != 129) = true := bne_iff_ne.2 (by omega)
        clear q0 q1
        go_enter Tryd.func9, Tryd.ntmps9
        go_wp2
        go_ret3
        rw [hs.out]
        exact ⟨rfl, rfl⟩
      · obtain ⟨v, hv, hbv⟩ : ∃ v : Nat, v ≤ 1 ∧ bn = 128 + v := by
          rcases (show bn = 128 ∨ bn = 129 by omega) with rfl | rfl
          · exact ⟨0, by omega, rfl⟩
          · exact ⟨1, by omega, rfl⟩
        have h1 : Hid (Lib.uvarintDec (l.drop pos) = Lib.uvarintFrom 1 v (l.drop (pos + 1))) := by
          show _ = _
          rw [HD.out]
          unfold Lib.uvarintDec
          rw [Lib.uvarintFrom, if_neg (by omega), if_neg (by rw [← HBN.out]; omega), ← HBN.out, hbv]
          congr 1
          rcases (show v = 0 ∨ v = 1 by omega) with rfl | rfl <;> rfl
        clear q0 q1 hb256
        rcases (show v = 0 ∨ v = 1 by omega) with rfl | rfl
        · subst hbv
          clear hv
          go_enter Tryd.func9, Tryd.ntmps9
          go_wp2
          go_loop [9] (fun i => ∃ k : Nat, 1 ≤ k ∧ k ≤ 10 ∧ pos + k ≤ n ∧ i = .int .i64 k ∧ Hid (Lib.uvarintDec (l.drop pos) = Lib.uvarintFrom k 0 (l.drop (pos + k)))) (fun i => 10 - (intOf i).toNat)
          case atStart => exact ⟨1, by omega, by omega, by omega, rfl, h1⟩
          case round =>
            obtain ⟨k, hk1, hk2, hk3, rfl, HK⟩ := hrel
            by_cases hk : k < 10
            · by_cases hpk : pos + k < n
              · have hpl : pos + k < l.length := by rw [HL.out]; exact hpk
                have hdrop : l.drop (pos + k) = l[pos + k] :: l.drop (pos + k + 1) := List.drop_eq_getElem_cons hpl
                have c1 := HC.out (pos + k) hpl
                obtain ⟨d, hd⟩ : ∃ d, d = l[pos + k] := ⟨_, rfl⟩
                rw [← hd] at c1 hdrop
                have hd256 : d.toNat < 256 := d.toNat_lt
                obtain ⟨dn, hdn⟩ : ∃ dn : Nat, dn = d.toNat := ⟨_, rfl⟩
                rw [← hdn] at c1 hd256
                have hfrom := HK.out
                rw [hdrop] at hfrom
                have HF := hideIt hfrom
                have HDN := hideIt hdn
                clear hdrop hdn hd hpl hfrom HK
                by_cases q0 : dn = 0
                · have hs := hideIt (smallR_some (small_low _ _ k 0 d (by omega) (by omega) HF.out (by rw [← HDN.out]; exact q0)))
                  subst q0
                  go_wp2
                  go_ret3
                  rw [hs.out]
                  refine ⟨?_, rfl⟩
                  rw [show ((pos + (k + 1) : Nat) : Int) = (pos : Int) + k + 1 by omega]
                  show Ending.returned (.tuple #[.int .i64 (wrap64 (bits BinOp.and .u8 128 1)), .int .i64 ((pos : Int) + k + 1), .bool true]) = _
                  rw [show wrap64 (bits BinOp.and .u8 128 1) = 0 from by kernel_rfl]
                  rfl
                · by_cases q1 : dn = 128
                  · have hs : Hid (Lib.uvarintDec (l.drop pos) = Lib.uvarintFrom (k + 1) 0 (l.drop (pos + (k + 1)))) := by
                      show _ = _
                      rw [HF.out, Lib.uvarintFrom, if_neg (by omega), if_neg (by rw [← HDN.out]; omega), ← HDN.out, q1, show 128 % 128 = 0 from rfl, Nat.zero_mul, Nat.add_zero]
                      rfl
                    subst q1
                    clear q0
                    go_wp2
                    go_round
                    case rel => exact ⟨k + 1, by omega, by omega, by omega, by go_num, hs⟩
                    case measure => simp [intOf]; omega
                  · have hs := hideIt (smallR_none (small_bad _ _ k 0 d HF.out (by rw [← HDN.out]; omega) (by rw [← HDN.out]; exact q1) (Or.inr hk1)))
                    have b0 : ((dn : Int) == 0) = false := beq_eq_false_iff_ne.2 (by omega)
                    have b2 : ((dn : Int) != 128) = true := bne_iff_ne.2 (by omega)
                    clear q0 q1
                    go_wp2
                    go_ret3
                    rw [hs.out]
                    exact ⟨rfl, rfl⟩
              · have hs := HK.out
                have hd0 : l.drop (pos + k) = [] := List.drop_eq_nil_of_le (by rw [HL.out]; omega)
                rw [hd0] at hs
                have hs' := hideIt (smallR_none (small_end _ [] k 0 hs))
                clear hs hd0
                go_wp2
                go_ret3
                rw [hs'.out]
                exact ⟨rfl, rfl⟩
            · obtain rfl : k = 10 := by omega
              have hs := hideIt (smallR_none (small_ten _ _ 0 HK.out))
              go_wp2
              go_ret3
              rw [hs.out]
              exact ⟨rfl, rfl⟩
        · subst hbv
          clear hv
          go_enter Tryd.func9, Tryd.ntmps9
          go_wp2
          go_loop [9] (fun i => ∃ k : Nat, 1 ≤ k ∧ k ≤ 10 ∧ pos + k ≤ n ∧ i = .int .i64 k ∧ Hid (Lib.uvarintDec (l.drop pos) = Lib.uvarintFrom k 1 (l.drop (pos + k)))) (fun i => 10 - (intOf i).toNat)
          case atStart => exact ⟨1, by omega, by omega, by omega, rfl, h1⟩
          case round =>
            obtain ⟨k, hk1, hk2, hk3, rfl, HK⟩ := hrel
            by_cases hk : k < 10
            · by_cases hpk : pos + k < n
              · have hpl : pos + k < l.length := by rw [HL.out]; exact hpk
                have hdrop : l.drop (pos + k) = l[pos + k] :: l.drop (pos + k + 1) := List.drop_eq_getElem_cons hpl
                have c1 := HC.out (pos + k) hpl
                obtain ⟨d, hd⟩ : ∃ d, d = l[pos + k] := ⟨_, rfl⟩
                rw [← hd] at c1 hdrop
                have hd256 : d.toNat < 256 := d.toNat_lt
                obtain ⟨dn, hdn⟩ : ∃ dn : Nat, dn = d.toNat := ⟨_, rfl⟩
                rw [← hdn] at c1 hd256
                have hfrom := HK.out
                rw [hdrop] at hfrom
                have HF := hideIt hfrom
                have HDN := hideIt hdn
                clear hdrop hdn hd hpl hfrom HK
                by_cases q0 : dn = 0
                · have hs := hideIt (smallR_some (small_low _ _ k 1 d (by omega) (by omega) HF.out (by rw [← HDN.out]; exact q0)))
                  subst q0
                  go_wp2
                  go_ret3
                  rw [hs.out]
                  refine ⟨?_, rfl⟩
                  rw [show ((pos + (k + 1) : Nat) : Int) = (pos : Int) + k + 1 by omega]
                  show Ending.returned (.tuple #[.int .i64 (wrap64 (bits BinOp.and .u8 129 1)), .int .i64 ((pos : Int) + k + 1), .bool true]) = _
                  rw [show wrap64 (bits BinOp.and .u8 129 1) = 1 from by kernel_rfl]
                  rfl
                · by_cases q1 : dn = 128
                  · have hs : Hid (Lib.uvarintDec (l.drop pos) = Lib.uvarintFrom (k + 1) 1 (l.drop (pos + (k + 1)))) := by
                      show _ = _
                      rw [HF.out, Lib.uvarintFrom, if_neg (by omega), if_neg (by rw [← HDN.out]; omega), ← HDN.out, q1, show 128 % 128 = 0 from rfl, Nat.zero_mul, Nat.add_zero]
                      rfl
                    subst q1
                    clear q0
                    go_wp2
                    go_round
                    case rel => exact ⟨k + 1, by omega, by omega, by omega, by go_num, hs⟩
                    case measure => simp [intOf]; omega
                  · have hs := hideIt (smallR_none (small_bad _ _ k 1 d HF.out (by rw [← HDN.out]; omega) (by rw [← HDN.out]; exact q1) (Or.inr hk1)))
                    have b0 : ((dn : Int) == 0) = false := beq_eq_false_iff_ne.2 (by omega)
                    have b2 : ((dn : Int) != 128) = true := bne_iff_ne.2 (by omega)
                    clear q0 q1
                    go_wp2
                    go_ret3
                    rw [hs.out]
                    exact ⟨rfl, rfl⟩
              · have hs := HK.out
                have hd0 : l.drop (pos + k) = [] := List.drop_eq_nil_of_le (by rw [HL.out]; omega)
                rw [hd0] at hs
                have hs' := hideIt (smallR_none (small_end _ [] k 1 hs))
                clear hs hd0
                go_wp2
                go_ret3
                rw [hs'.out]
                exact ⟨rfl, rfl⟩
            · obtain rfl : k = 10 := by omega
              have hs := hideIt (smallR_none (small_ten _ _ 1 HK.out))
              go_wp2
              go_ret3
              rw [hs.out]
              exact ⟨rfl, rfl⟩
  · obtain rfl : pos = n := by omega
    have hs := hideIt (smallR_none (l := l) (pos := pos) (by rw [List.drop_eq_nil_of_le (by rw [HL.out]; omega)]; exact small_end [] [] 0 0 rfl))
    go_enter Tryd.func9, Tryd.ntmps9
    go_wp2
    go_ret3
    rw [hs.out]
    exact ⟨rfl, rfl⟩

theorem small_any (w : World) (v : Value) (l : List UInt8) (pos : Nat) (hv : Byts w v l) (hn : l.length ≤ 1048576) (hp : pos ≤ l.length) :
    Calls Tryd.prog 9 #[v, .int .i64 pos] w fun e w' => e = .returned (.tuple (smallR l pos)) ∧ w = w' := by
  rcases hv with ⟨g, o, c, rfl, hc, hcell⟩ | ⟨rfl, ao, c, rfl⟩
  · exact small_slice w g o l.length c l pos rfl hn hp hcell
  · obtain rfl : pos = 0 := by simpa using hp
    have hs := hideIt (smallR_none (l := []) (pos := 0) (small_end [] [] 0 0 rfl))
    clear hp hn
    go_enter Tryd.func9, Tryd.ntmps9
    go_wp2
    go_ret3
    rw [hs.out]
    exact ⟨rfl, rfl⟩
end Go.Proofs.Qxb6613198aDoor
