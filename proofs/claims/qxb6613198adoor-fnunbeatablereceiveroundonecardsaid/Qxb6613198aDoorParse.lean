import Derived.Test.Qxb6613198aDoorNext
import Derived.Test.Qxb6613198aDoorNew
namespace Go.Proofs.Qxb6613198aDoor
open Go.ChangeShapes Go.WideShapes Go.ChangeAt Go.RowKit
open Plain
set_option linter.unusedVariables false

/-! ### A payload as a list of entries: no Go here -/
/-- One process's entry: how many nodes, from which on, the input. -/
structure Ent where
  c : Nat
  x : Nat
  v : Nat

def ent (l : List UInt8) : Option (Ent × List UInt8) :=
  match small l with
  | none => none
  | some (c, k) => if c = 0 then some (⟨0, 0, 0⟩, l.drop k) else
    match small (l.drop k) with
    | none => none
    | some (x, k2) => if x = 1 then some (⟨1, 1, 0⟩, (l.drop k).drop k2) else
      match small ((l.drop k).drop k2) with
      | none => none
      | some (v, k3) => some (⟨1, 0, v⟩, ((l.drop k).drop k2).drop k3)

theorem ent_none1 {l : List UInt8} (h : small l = none) : ent l = none := by unfold ent; rw [h]
theorem ent_zero {l : List UInt8} {k : Nat} (h : small l = some (0, k)) : ent l = some (⟨0, 0, 0⟩, l.drop k) := by unfold ent; rw [h]; rfl
theorem ent_none2 {l : List UInt8} {k : Nat} (h : small l = some (1, k)) (h2 : small (l.drop k) = none) : ent l = none := by unfold ent; rw [h]; simp [h2]
theorem ent_one {l : List UInt8} {k k2 : Nat} (h : small l = some (1, k)) (h2 : small (l.drop k) = some (1, k2)) : ent l = some (⟨1, 1, 0⟩, (l.drop k).drop k2) := by
  unfold ent
  simp only [h, h2]
  rfl
theorem ent_none3 {l : List UInt8} {k k2 : Nat} (h : small l = some (1, k)) (h2 : small (l.drop k) = some (0, k2)) (h3 : small ((l.drop k).drop k2) = none) : ent l = none := by
  unfold ent
  simp only [h, h2, h3]
  rfl
theorem ent_in {l : List UInt8} {k k2 k3 v : Nat} (h : small l = some (1, k)) (h2 : small (l.drop k) = some (0, k2)) (h3 : small ((l.drop k).drop k2) = some (v, k3)) : ent l = some (⟨1, 0, v⟩, ((l.drop k).drop k2).drop k3) := by
  unfold ent
  simp only [h, h2, h3]
  rfl

/-- What an entry can be. -/
def Ent.ok (e : Ent) : Prop := (e.c = 0 ∧ e.x = 0 ∧ e.v = 0) ∨ (e.c = 1 ∧ e.x = 1 ∧ e.v = 0) ∨ (e.c = 1 ∧ e.x = 0 ∧ e.v ≤ 1)

def parse : Nat → List UInt8 → Option (List Ent × List UInt8)
  | 0, l => some ([], l)
  | n + 1, l => match ent l with
    | none => none
    | some (e, r) => match parse n r with
      | none => none
      | some (es, r') => some (e :: es, r')

/-- The entries es are read; lh is left. -/
structure Prog (n : Nat) (l : List UInt8) (es : List Ent) (lh : List UInt8) : Prop where
  le : es.length ≤ n
  eq : parse n l = (parse (n - es.length) lh).map fun p => (es ++ p.1, p.2)
  ok : ∀ e ∈ es, e.ok
theorem Prog.start (n : Nat) (l : List UInt8) : Prog n l [] l := ⟨Nat.zero_le _, by simp, by simp⟩
theorem Prog.step {n : Nat} {l lh r : List UInt8} {es : List Ent} {e : Ent} (h : Prog n l es lh) (hlt : es.length < n) (he : ent lh = some (e, r)) (ho : e.ok) : Prog n l (es ++ [e]) r := by
  refine ⟨by simp; omega, ?_, ?_⟩
  · rw [h.eq]
    obtain ⟨m, hm⟩ : ∃ m, n - es.length = m + 1 := ⟨n - es.length - 1, by omega⟩
    rw [hm, show n - (es ++ [e]).length = m by simp; omega]
    simp only [parse, he]
    cases hp : parse m r with
    | none => rfl
    | some p => simp
  · intro e' he'
    rcases List.mem_append.1 he' with h' | h'
    · exact h.ok _ h'
    · rw [List.mem_singleton.1 h']; exact ho
theorem Prog.fail {n : Nat} {l lh : List UInt8} {es : List Ent} (h : Prog n l es lh) (hlt : es.length < n) (he : ent lh = none) : parse n l = none := by
  rw [h.eq]
  obtain ⟨m, hm⟩ : ∃ m, n - es.length = m + 1 := ⟨n - es.length - 1, by omega⟩
  rw [hm]
  simp [parse, he]
theorem Prog.all {n : Nat} {l lh : List UInt8} {es : List Ent} (h : Prog n l es lh) (hlt : es.length = n) : parse n l = some (es, lh) := by
  rw [h.eq, hlt, Nat.sub_self]
  simp [parse]

/-- The entry of process h. -/
def entAt (es : List Ent) (h : Nat) : Ent := es.getD h ⟨0, 0, 0⟩
theorem entAt_append_lt {es : List Ent} {e : Ent} {h : Nat} (hh : h < es.length) : entAt (es ++ [e]) h = entAt es h := by
  simp [entAt, List.getD, List.getElem?_append_left hh]
theorem entAt_append_eq (es : List Ent) (e : Ent) : entAt (es ++ [e]) es.length = e := by
  simp [entAt, List.getD]
theorem entAt_ok {es : List Ent} (h : ∀ e ∈ es, e.ok) (i : Nat) (hi : i < es.length) : (entAt es i).ok := by
  unfold entAt
  rw [List.getD, List.getElem?_eq_getElem hi]
  exact h _ (List.getElem_mem hi)

/-- A message that is an update of its sender's: its entries. -/
def msgEs (n : Nat) (f : Int) (l : List UInt8) : Option (List Ent) :=
  if 0 ≤ f ∧ f < n then match parse n l with
    | some (es, []) => if (entAt es f.toNat).c = 1 ∧ (entAt es f.toNat).x = 0 then some es else none
    | _ => none
  else none
theorem msgEs_out {n : Nat} {f : Int} {l : List UInt8} (h : ¬ (0 ≤ f ∧ f < n)) : msgEs n f l = none := if_neg h
theorem msgEs_bad {n : Nat} {f : Int} {l : List UInt8} (h : parse n l = none) : msgEs n f l = none := by
  unfold msgEs; rw [h]; simp
theorem msgEs_left {n : Nat} {f : Int} {l r : List UInt8} {es : List Ent} (h : parse n l = some (es, r)) (hr : r ≠ []) : msgEs n f l = none := by
  unfold msgEs; rw [h]
  cases r with
  | nil => exact absurd rfl hr
  | cons a r => simp
theorem msgEs_not {n : Nat} {f : Int} {l : List UInt8} {es : List Ent} (h : parse n l = some (es, [])) (hr : ¬ ((entAt es f.toNat).c = 1 ∧ (entAt es f.toNat).x = 0)) : msgEs n f l = none := by
  unfold msgEs; rw [h]
  simp only [if_neg hr]
  simp
theorem msgEs_yes {n : Nat} {f : Int} {l : List UInt8} {es : List Ent} (hf : 0 ≤ f ∧ f < n) (h : parse n l = some (es, [])) (hr : (entAt es f.toNat).c = 1 ∧ (entAt es f.toNat).x = 0) : msgEs n f l = some es := by
  unfold msgEs; rw [h, if_pos hf]
  simp only [if_pos hr]

/-- Rows of numbers that say the entries es, as far as they go. -/
structure Says (es : List Ent) (RL RF RI : List Int) : Prop where
  l : ∀ h, h < es.length → RL.getD h 0 = ((entAt es h).c : Int) - 1
  f : ∀ h, h < es.length → RF.getD h 0 = ((entAt es h).x : Int)
  i : ∀ h, h < es.length → (entAt es h).c = 1 → (entAt es h).x = 0 → RI.getD h 0 = ((entAt es h).v : Int)

theorem getD_set_eq (l : List Int) (i : Nat) (v : Int) (h : i < l.length) : (l.set i v).getD i 0 = v := by
  simp [List.getD, h]
theorem getD_set_ne (l : List Int) (i j : Nat) (v : Int) (h : i ≠ j) : (l.set i v).getD j 0 = l.getD j 0 := by
  simp [List.getD, h]

theorem Says.step {es : List Ent} {RL RF RI RI' : List Int} (e : Ent) (h : Says es RL RF RI) (hl : es.length < RL.length) (hf : es.length < RF.length)
    (hi : ∀ j, j < es.length → RI'.getD j 0 = RI.getD j 0) (hv : e.c = 1 → e.x = 0 → RI'.getD es.length 0 = (e.v : Int)) :
    Says (es ++ [e]) (RL.set es.length ((e.c : Int) - 1)) (RF.set es.length (e.x : Int)) RI' := by
  refine ⟨fun j hj => ?_, fun j hj => ?_, fun j hj => ?_⟩
  all_goals
    simp only [List.length_append, List.length_cons, List.length_nil] at hj
    rcases Nat.lt_or_ge j es.length with c | c
  · rw [getD_set_ne _ _ _ _ (by omega), entAt_append_lt c]; exact h.l j c
  · obtain rfl : j = es.length := by omega
    rw [getD_set_eq _ _ _ hl, entAt_append_eq]
  · rw [getD_set_ne _ _ _ _ (by omega), entAt_append_lt c]; exact h.f j c
  · obtain rfl : j = es.length := by omega
    rw [getD_set_eq _ _ _ hf, entAt_append_eq]
  · rw [entAt_append_lt c, hi j c]; exact h.i j c
  · obtain rfl : j = es.length := by omega
    rw [entAt_append_eq]; exact hv

/-- What a view's update does. -/
def okT (es : List Ent) (L : List Int) (n : Nat) : Bool := (List.range n).all fun h => decide (((entAt es h).x : Int) ≤ L.getD h 0 + 1)
def takeL (es : List Ent) (L : List Int) : List Int := (List.range L.length).map fun h => max (L.getD h 0) (((entAt es h).c : Int) - 1)
def takeI (es : List Ent) (L I : List Int) : List Int := (List.range I.length).map fun h => if L.getD h 0 < ((entAt es h).c : Int) - 1 then ((entAt es h).v : Int) else I.getD h 0
def minS (es : List Ent) (S : List Int) : List Int := (List.range S.length).map fun h => min (S.getD h 0) (((entAt es h).c : Int) - 1)

/-- A process's knowledge in round 1. -/
structure PS where
  L : List Int
  I : List Int
  S : List Int
  H : Int
def stepM (n : Nat) (s : PS) (f : Int) (l : List UInt8) : PS := match msgEs n f l with
  | none => s
  | some es => if okT es s.L n = true then ⟨takeL es s.L, takeI es s.L s.I, minS es s.S, orBit s.H f.toNat⟩ else s
end Go.Proofs.Qxb6613198aDoor
