import Derived.Test.Qxb6613198aDoorRows
import Derived.Test.Qxb6613198aDoorBits
import Derived.WalkKit
import Derived.ProofKit
import Derived.OpenShut
import Derived.Deep.QuietTactic
import Derived.BigQuiet
import Derived.Deep.RegionHeld3
import Derived.Deep.DeepCutAuto
/-! Blocks known whole; what a call keeps. -/
namespace Go.Proofs.Qxb6613198aDoor
open Go.ChangeShapes Go.WideShapes Go.ChangeAt Go.RowKit
open Plain

/-- Block b is a row of cells, not frozen. -/
def Blk (w : World) (b : Nat) (c : Array Value) (t : TypeId) : Prop := w.heap[b]? = some (.cells c t)

theorem Blk.cell {w : World} {b : Nat} {c : Array Value} {t : TypeId} (h : Blk w b c t) (i : Nat) : w.cell? ⟨b, i, none⟩ = c[i]? := by
  unfold Blk at h; simp [World.cell?, h]
theorem Blk.frozen {w : World} {b : Nat} {c : Array Value} {t : TypeId} (h : Blk w b c t) (i : Nat) : w.frozen? ⟨b, i, none⟩ = false := by
  unfold Blk at h; simp [World.frozen?, h]
theorem Blk.lt {w : World} {b : Nat} {c : Array Value} {t : TypeId} (h : Blk w b c t) : b < w.heap.size := by
  unfold Blk at h
  rcases Nat.lt_or_ge b w.heap.size with h' | h'
  · exact h'
  · rw [Array.getElem?_eq_none h'] at h; cases h
theorem Blk.set {w : World} {b : Nat} {c : Array Value} {t : TypeId} (h : Blk w b c t) (i : Nat) (v : Value) :
    Blk (w.setCell ⟨b, i, none⟩ v) b (c.setIfInBounds i v) t := by
  unfold Blk at *
  simp only [World.setCell, Array.getElem?_modify, h]
  simp
theorem Blk.new (w : World) (c : Array Value) (t : TypeId) : Blk (w.alloc (.cells c t)) w.heap.size c t := (MapKept.heap_alloc w (.cells c t)).1

/-- What was there is as it was, but for the blocks of the list. -/
structure Keeps (bs : List Nat) (w w' : World) : Prop where
  os : w'.os = w.os
  tape : w'.tape = w.tape
  output : w'.output = w.output
  size : w.heap.size ≤ w'.heap.size
  block : ∀ k, k < w.heap.size → k ∉ bs → w'.heap[k]? = w.heap[k]?

theorem Keeps.refl (bs : List Nat) (w : World) : Keeps bs w w := ⟨rfl, rfl, rfl, Nat.le_refl _, fun _ _ _ => rfl⟩
theorem Keeps.trans {bs : List Nat} {a b c : World} (h : Keeps bs a b) (k : Keeps bs b c) : Keeps bs a c :=
  ⟨k.os.trans h.os, k.tape.trans h.tape, k.output.trans h.output, Nat.le_trans h.size k.size, fun i hi hb => (k.block i (Nat.lt_of_lt_of_le hi h.size) hb).trans (h.block i hi hb)⟩
theorem Keeps.mono {bs cs : List Nat} {a b : World} (h : Keeps bs a b) (hs : ∀ x ∈ bs, x ∈ cs) : Keeps cs a b :=
  ⟨h.os, h.tape, h.output, h.size, fun i hi hb => h.block i hi fun hx => hb (hs i hx)⟩
theorem Keeps.drew {bs : List Nat} {a w : World} (h : Keeps bs a w) : Keeps bs a w.drew := ⟨h.os, h.tape, h.output, h.size, h.block⟩
theorem Keeps.drewN {bs : List Nat} {a w : World} (h : Keeps bs a w) (n : Nat) : Keeps bs a (w.drewN n) := ⟨h.os, h.tape, h.output, h.size, h.block⟩
theorem Keeps.alloc {bs : List Nat} {a w : World} (h : Keeps bs a w) (o : Obj) : Keeps bs a (w.alloc o) :=
  h.trans ⟨rfl, rfl, rfl, by simp, fun k hk _ => Below.heap_alloc _ _ _ hk⟩
theorem Keeps.setCell {bs : List Nat} {a w : World} (h : Keeps bs a w) {b i : Nat} (hb : b ∈ bs) (v : Value) : Keeps bs a (w.setCell ⟨b, i, none⟩ v) :=
  h.trans ⟨rfl, rfl, rfl, by simp [World.setCell], fun k _ hk => Below.heap_setCell _ _ _ _ (fun e => hk (by rw [e]; exact hb))⟩
theorem Keeps.blk {bs : List Nat} {w w' : World} (h : Keeps bs w w') {b : Nat} {c : Array Value} {t : TypeId} (hB : Blk w b c t) (hb : b ∉ bs) : Blk w' b c t := by
  have := h.block b hB.lt hb
  unfold Blk at *
  rw [this]; exact hB
theorem Keeps.below {bs : List Nat} {w w' : World} (h : Keeps bs w w') {B : Nat} (hB : B ≤ w.heap.size) (hb : ∀ x ∈ bs, B ≤ x) : Below B w w' :=
  ⟨h.os, h.tape, h.output, h.size, fun k hk => h.block k (by omega) fun hx => by have := hb k hx; omega⟩
theorem Below.blk' {B : Nat} {w w' : World} (h : Below B w w') {b : Nat} {c : Array Value} {t : TypeId} (hB : Blk w b c t) (hb : b < B) : Blk w' b c t := by
  have := h.block b hb
  unfold Blk at *
  rw [this]; exact hB

/-! Rows of numbers. -/
def ints (l : List Int) : Array Value := (l.map (Value.int .i64)).toArray
def u64s (l : List Int) : Array Value := (l.map (Value.int .u64)).toArray

theorem ints_size (l : List Int) : (ints l).size = l.length := by simp [ints]
theorem ints_get (l : List Int) (i : Nat) (h : i < l.length) : (ints l)[i]? = some (.int .i64 (l.getD i 0)) := by
  simp [ints, h]
theorem ints_set (l : List Int) (i : Nat) (v : Int) : (ints l).setIfInBounds i (.int .i64 v) = ints (l.set i v) := by
  simp [ints, List.map_set]
theorem u64s_get (l : List Int) (i : Nat) (h : i < l.length) : (u64s l)[i]? = some (.int .u64 (l.getD i 0)) := by
  simp [u64s, h]
theorem u64s_set (l : List Int) (i : Nat) (v : Int) : (u64s l).setIfInBounds i (.int .u64 v) = u64s (l.set i v) := by
  simp [u64s, List.map_set]

theorem hideIt {p : Prop} (h : p) : Hid p := h
theorem ret_int {k : IntKind} {a b : Int} (h : a = b) : Ending.returned (.int k a) = .returned (.int k b) := by rw [h]

/-- 'l' with its first 'k' numbers set to 'v'. -/
def fillTo (l : List Int) (k : Nat) (v : Int) : List Int := List.replicate k v ++ l.drop k
theorem fillTo_zero (l : List Int) (v : Int) : fillTo l 0 v = l := by simp [fillTo]
theorem fillTo_all (l : List Int) (v : Int) : fillTo l l.length v = List.replicate l.length v := by simp [fillTo]
theorem fillTo_len (l : List Int) (k : Nat) (v : Int) (h : k ≤ l.length) : (fillTo l k v).length = l.length := by simp [fillTo]; omega
theorem fillTo_succ (l : List Int) (k : Nat) (v : Int) (h : k < l.length) : (fillTo l k v).set k v = fillTo l (k + 1) v := by
  unfold fillTo
  apply List.ext_getElem?
  intro j
  rw [List.getElem?_set]
  by_cases e : k = j
  · subst e
    rw [if_pos rfl, List.getElem?_append_left (by simp)]
    simp; omega
  · rw [if_neg e]
    by_cases c : j < k
    · rw [List.getElem?_append_left (by simpa using c), List.getElem?_append_left (by simp; omega)]
      simp [c, Nat.lt_succ_of_lt c]
    · rw [List.getElem?_append_right (by simp; omega), List.getElem?_append_right (by simp; omega)]
      simp only [List.length_replicate, List.getElem?_drop]
      congr 1
      omega
end Go.Proofs.Qxb6613198aDoor
