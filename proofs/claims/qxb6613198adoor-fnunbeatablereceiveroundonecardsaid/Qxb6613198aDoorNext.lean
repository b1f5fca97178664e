import Derived.Test.Qxb6613198aDoorSmall
import Derived.Test.Qxb6613198aDoorApply
namespace Go.Proofs.Qxb6613198aDoor
open Go.ChangeShapes Go.WideShapes Go.ChangeAt Go.RowKit
open Plain
set_option linter.unusedVariables false

/-- v is a slice of the bytes l, in a block below B. -/
def BytB (B : Nat) (w : World) (v : Value) (l : List UInt8) : Prop :=
  (∃ g o c, v = .slice (some ⟨g, o, none⟩) l.length c ∧ g < B ∧ l.length ≤ c ∧ ∀ j (hj : j < l.length), w.cell? ⟨g, o + j, none⟩ = some (.int .u8 (l[j]).toNat)) ∨ (l = [] ∧ ∃ ao c, v = .slice ao 0 c)
theorem BytB.byts {B : Nat} {w : World} {v : Value} {l : List UInt8} (h : BytB B w v l) : Byts w v l := by
  rcases h with ⟨g, o, c, h1, h2, h3, h4⟩ | h
  · exact Or.inl ⟨g, o, c, h1, h3, h4⟩
  · exact Or.inr h
theorem BytB.below {B : Nat} {W w : World} {v : Value} {l : List UInt8} (h : BytB B W v l) (hb : Below B W w) : BytB B w v l := by
  rcases h with ⟨g, o, c, h1, h2, h3, h4⟩ | h
  · exact Or.inl ⟨g, o, c, h1, h2, h3, fun j hj => by rw [hb.cell h2]; exact h4 j hj⟩
  · exact Or.inr h
theorem BytB.slice {B : Nat} {w : World} {v : Value} {l : List UInt8} (h : BytB B w v l) : ∃ ao n c, v = .slice ao n c ∧ n = l.length := by
  rcases h with ⟨g, o, c, h1, h2, h3, h4⟩ | ⟨h, ao, c, hv⟩
  · exact ⟨_, _, _, h1, rfl⟩
  · exact ⟨_, _, _, hv, by rw [h]; rfl⟩

/-- What next() answers, and the bytes that are left. -/
def nextX (l : List UInt8) : Nat := if 0 < (Lib.uvarintDec l).2 then (Lib.uvarintDec l).1 else 0
def nextOk (l : List UInt8) : Bool := decide (0 < (Lib.uvarintDec l).2)
def nextL (l : List UInt8) : List UInt8 := if 0 < (Lib.uvarintDec l).2 then l.drop (Lib.uvarintDec l).2.toNat else l

theorem next_cases (l : List UInt8) : (small l = none ∧ nextOk l = false) ∨ (small l = none ∧ nextOk l = true ∧ 1 < nextX l ∧ nextX l < 18446744073709551616) ∨ (∃ c k, small l = some (c, k) ∧ c ≤ 1 ∧ nextOk l = true ∧ nextX l = c ∧ nextL l = l.drop k) := by
  unfold small nextOk nextX nextL
  have hlt := Lib.uvarintDec_lt l
  by_cases h : 0 < (Lib.uvarintDec l).2
  · rw [if_pos h, if_pos h]
    by_cases h1 : (Lib.uvarintDec l).1 ≤ 1
    · right; right
      rw [if_pos ⟨h, h1⟩]
      exact ⟨_, _, rfl, h1, by simpa using h, rfl, rfl⟩
    · right; left
      rw [if_neg (by omega)]
      exact ⟨rfl, by simpa using h, by omega, hlt⟩
  · left
    rw [if_neg (by omega)]
    exact ⟨rfl, by simpa using h⟩

set_option maxHeartbeats 1000000 in
/-- next (28): the closure in decode. -/
theorem next_any (B bx : Nat) (w : World) (v : Value) (l : List UInt8) (hx : Blk w bx #[v] 25) (hB : B ≤ bx) (hv : BytB B w v l) (hl : l.length ≤ 1048576) :
    Calls Tryd.prog 28 #[.pointer (some ⟨bx, 0, none⟩)] w fun e w' => e = .returned (.tuple #[.int .u64 (nextX l), .bool (nextOk l)]) ∧ ∃ v', Hid (Blk w' bx #[v'] 25 ∧ BytB B w v' (nextL l) ∧ Keeps [bx] w w') := by
  have c0 := hx.cell 0
  have f0 := hx.frozen 0
  simp at c0
  have hd := dec_size l
  rcases hv with ⟨g, o, c, rfl, hg, hc, hcell⟩ | ⟨rfl, ao, c, rfl⟩
  · have HU := hideIt (Tryd.binary_Uvarint g o l.length c l w rfl hcell)
    have hlt := Lib.uvarintDec_lt l
    by_cases h : 0 < (Lib.uvarintDec l).2
    · have e1 : nextX l = (Lib.uvarintDec l).1 := if_pos h
      have e2 : nextOk l = true := by simpa [nextOk] using h
      have e3 : nextL l = l.drop (Lib.uvarintDec l).2.toNat := if_pos h
      obtain ⟨k, hk⟩ := Int.eq_ofNat_of_zero_le (a := (Lib.uvarintDec l).2) (by omega)
      have hres : Hid (BytB B w (.slice (some ⟨g, o + k, none⟩) (l.length - k) (c - k)) (nextL l)) := by
        left
        refine ⟨g, o + k, c - k, ?_, hg, ?_, ?_⟩
        · rw [e3, hk]; simp
        · rw [e3, hk]; simp; omega
        · intro j hj
          rw [e3, hk] at hj
          simp at hj
          have := hcell (k + j) (by omega)
          rw [Nat.add_assoc, this]
          congr 2
          simp only [e3, hk]
          simp
      have HX := hideIt hx
      have HE := hideIt (And.intro e1 e2)
      obtain ⟨x, hxx⟩ : ∃ x, x = (Lib.uvarintDec l).1 := ⟨_, rfl⟩
      rw [← hxx, hk] at HU
      have HXX := hideIt hxx
      have k1 : (0 : Int) < (k : Int) := by omega
      have k2 : k ≤ l.length := by omega
      have hnil : Hid (k = c → nextL l = []) := by
        intro hkc
        rw [e3, hk]
        exact List.drop_eq_nil_of_le (by simp; omega)
      obtain ⟨n, hn⟩ : ∃ n, n = l.length := ⟨_, rfl⟩
      rw [← hn] at c0 HU hres hl hc k2
      have HC := hideIt hc
      clear e1 e2 e3 hk hd h hcell hx hlt hxx hn hc
      by_cases hkc : c = k
      · have hnk : n - k = 0 := by have := HC.out; omega
        subst hkc
        go_enter Tryd.func28, Tryd.ntmps28
        go_wp2_with (go_at_call 29; refine HU.out.mono ?_; rintro e w' ⟨rfl, rfl⟩)
        go_ret2
        rw [HE.out.1, HE.out.2, ← HXX.out]
        exact ⟨rfl, .slice (some ⟨g, o, none⟩) 0 0, HX.out.set 0 _, Or.inr ⟨by simpa using hnil.out, some ⟨g, o, none⟩, 0, rfl⟩, (Keeps.refl _ _).setCell (by simp) _⟩
      · have hkc' := HC.out
        go_enter Tryd.func28, Tryd.ntmps28
        go_wp2_with (go_at_call 29; refine HU.out.mono ?_; rintro e w' ⟨rfl, rfl⟩)
        go_ret2
        rw [HE.out.1, HE.out.2, ← HXX.out]
        exact ⟨rfl, .slice (some ⟨g, o + k, none⟩) (n - k) (c - k), HX.out.set 0 _, hres.out, (Keeps.refl _ _).setCell (by simp) _⟩
    · have e1 : nextX l = 0 := if_neg h
      have e2 : nextOk l = false := by simpa [nextOk] using h
      have e3 : nextL l = l := if_neg h
      have hres : Hid (BytB B w (.slice (some ⟨g, o, none⟩) l.length c) (nextL l)) := by
        rw [e3]; exact Or.inl ⟨g, o, c, rfl, hg, hc, hcell⟩
      have HX := hideIt hx
      have HE := hideIt (And.intro e1 e2)
      obtain ⟨x, hxx⟩ : ∃ x, x = (Lib.uvarintDec l).1 := ⟨_, rfl⟩
      obtain ⟨k, hk⟩ : ∃ k, k = (Lib.uvarintDec l).2 := ⟨_, rfl⟩
      rw [← hxx, ← hk] at HU
      have k1 : k ≤ 0 := by omega
      obtain ⟨n, hn⟩ : ∃ n, n = l.length := ⟨_, rfl⟩
      rw [← hn] at c0 HU
      have HN := hideIt hn
      clear e1 e2 e3 hk hd h hcell hx hlt hxx hn hc hl
      go_enter Tryd.func28, Tryd.ntmps28
      go_wp2_with (go_at_call 29; refine HU.out.mono ?_; rintro e w' ⟨rfl, rfl⟩)
      go_ret2
      rw [HE.out.1, HE.out.2]
      exact ⟨rfl, _, HX.out, hres.out, Keeps.refl _ _⟩
  · have HX := hideIt hx
    clear hx hd hl
    go_enter Tryd.func28, Tryd.ntmps28
    go_wp2_with (go_at_call 29; refine (Tryd.binary_Uvarint_empty ao c _).mono ?_; rintro e w' ⟨rfl, rfl⟩)
    go_ret2
    exact ⟨rfl, _, HX.out, Or.inr ⟨rfl, ao, c, rfl⟩, Keeps.refl _ _⟩
end Go.Proofs.Qxb6613198aDoor
