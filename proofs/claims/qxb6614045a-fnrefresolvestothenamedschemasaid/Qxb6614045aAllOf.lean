import Derived.Test.Qxb6614045aRef
import Derived.Deep.QuietTactic
import Derived.BigQuiet
import Derived.LaidEqlPtr
namespace Go.Proofs.Qxb6614045a
open Go.ChangeShapes Go.WideShapes Go.ChangeAt Go.RowKit
open Go.ChangeMaps (setBlock heap_setBlock_same heap_setBlock_other)

/-- What a schema with nothing but its description lays. -/
def descCells (r : ByteArray) : Array Value :=
  #[.string ⟨#[]⟩, .string r, .string ⟨#[]⟩, .string ⟨#[]⟩, .map none, .pointer none, .pointer none, .slice none 0 0, .slice none 0 0, .string ⟨#[]⟩, .string ⟨#[]⟩, .slice none 0 0]
def propCells (r : ByteArray) (v : Value) : Array Value :=
  #[.string ⟨#[]⟩, .string r, .string ⟨#[]⟩, .string ⟨#[]⟩, .map none, .pointer none, .pointer none, v, .slice none 0 0, .string ⟨#[]⟩, .string ⟨#[]⟩, .slice none 0 0]
def D1 : ByteArray := ⟨#[110, 97, 109, 101, 100, 32, 98, 121, 32, 110, 97, 109, 101]⟩
def D2 : ByteArray := ⟨#[110, 97, 109, 101, 100, 32, 98, 121, 32, 111, 116, 104, 101, 114]⟩

theorem below_setBlock {w : World} {b : Nat} (o : Obj) : Below b w (setBlock w b o) :=
  ⟨rfl, rfl, rfl, by simp [setBlock], fun k hk => by show (w.heap.setIfInBounds b o)[k]? = _; rw [Array.getElem?_setIfInBounds_ne (by omega)]⟩

theorem size_setBlock {w : World} {b : Nat} (o : Obj) : (setBlock w b o).heap.size = w.heap.size := by simp [setBlock]

theorem set_block {w : World} {b : Nat} (o : Obj) (h : b < w.heap.size) : (setBlock w b o).heap[b]? = some o := by
  show (w.heap.setIfInBounds b o)[b]? = _
  simp [h]

theorem zero23 (w : World) : (zeroValue 23).run Try.prog w = .ok (.pointer none) w := by kernel_rfl

/-- The two stores, and what the look-ups then answer. -/
theorem two_puts (w : World) (name other : ByteArray) (tN tO : Value) (b : Nat) (hb : w.heap[b]? = some (.map #[] 0)) :
    ∃ W1 W2 es c, (Instr.mapUpdate 29 (.map (some b)) (.string other) tO).run Try.prog w = .ok () W1 ∧ (Instr.mapUpdate 29 (.map (some b)) (.string name) tN).run Try.prog W1 = .ok () W2 ∧
      Below b w W2 ∧ W2.heap.size = w.heap.size ∧ W2.heap[b]? = some (.map es c) ∧
      (∀ W : World, W.heap[b]? = some (.map es c) → (Instr.lookup 29 (.map (some b)) (.string name) false).run Try.prog W = .ok tN W ∧
        (Instr.lookup 29 (.map (some b)) (.string other) false).run Try.prog W = .ok (if name = other then tN else tO) W) := by
  have hlt : b < w.heap.size := by
    rcases Nat.lt_or_ge b w.heap.size with h | h
    · exact h
    · rw [Array.getElem?_eq_none h] at hb; cases hb
  have r1 := run_upd_push (P := Try.prog) (mty := 29) Try.underlying29 Try.underlying9 hb other tO rfl
  have hb1 : (setBlock w b (.map (#[].push { key := .string other, val := tO, born := 0 }) (0 + 1))).heap[b]? = some (.map #[{ key := .string other, val := tO, born := 0 }] 1) := set_block _ hlt
  by_cases e : name = other
  · subst e
    have r2 := run_upd_same (P := Try.prog) (mty := 29) Try.underlying29 Try.underlying9 name tO tN 0 hb1
    refine ⟨_, _, #[{ key := .string name, val := tN, born := 0 }], 1, r1, r2, (below_setBlock _).trans (below_setBlock _), by rw [size_setBlock, size_setBlock], set_block _ (by rw [size_setBlock]; exact hlt), ?_⟩
    intro W hW
    have hs : (name == name) = true := (MapKept.bytes_beq name name).2 rfl
    have h := run_look (P := Try.prog) (mty := 29) Try.underlying29 Try.underlying9 hW name (some (0, tN)) _ (zero23 W) (by simp [Instr.findNow, Instr.sameNow, hs])
    exact ⟨h, by rw [if_pos rfl]; exact h⟩
  · have hne := bytes_ne e
    have hne' := bytes_ne (Ne.symm e)
    have r2 := run_upd_push (P := Try.prog) (mty := 29) Try.underlying29 Try.underlying9 hb1 name tN (by simp [Instr.findNow, Instr.sameNow, hne])
    refine ⟨_, _, #[{ key := .string other, val := tO, born := 0 }, { key := .string name, val := tN, born := 1 }], 2, r1, r2, (below_setBlock _).trans (below_setBlock _), by rw [size_setBlock, size_setBlock], set_block _ (by rw [size_setBlock]; exact hlt), ?_⟩
    intro W hW
    have hs : (name == name) = true := (MapKept.bytes_beq name name).2 rfl
    have hs' : (other == other) = true := (MapKept.bytes_beq other other).2 rfl
    have h1 := run_look (P := Try.prog) (mty := 29) Try.underlying29 Try.underlying9 hW name (some (1, tN)) _ (zero23 W) (by simp [Instr.findNow, Instr.sameNow, hs, hne])
    have h2 := run_look (P := Try.prog) (mty := 29) Try.underlying29 Try.underlying9 hW other (some (0, tO)) _ (zero23 W) (by simp [Instr.findNow, Instr.sameNow, hs'])
    exact ⟨h1, by rw [if_neg e]; exact h2⟩

/-- The world with both references and the property laid. -/
theorem five (w W2 : World) (r1 r2 desc : ByteArray) (es : Array MapEntry) (c : Nat) (hB : Below w.heap.size w W2) (hN : w.heap.size + 2 < W2.heap.size) (hM : W2.heap[w.heap.size + 2]? = some (.map es c)) :
    ∀ W5, W5 = (((W2.alloc (.cells (refCells r1) 28)).alloc (.cells (refCells r2) 28)).alloc (.cells #[.pointer (some ⟨W2.heap.size, 0, none⟩)] 23)).alloc
      (.cells #[.string ⟨#[]⟩, .string desc, .string ⟨#[]⟩, .string ⟨#[]⟩, .map none, .pointer none, .pointer none, .slice (some ⟨W2.heap.size + 1 + 1, 0, none⟩) 1 1, .slice none 0 0, .string ⟨#[]⟩, .string ⟨#[]⟩, .slice none 0 0] 28) →
    W5.cell? ⟨W2.heap.size + 1 + 1 + 1, 7, none⟩ = some (.slice (some ⟨W2.heap.size + 1 + 1, 0, none⟩) 1 1) ∧ W5.cell? ⟨W2.heap.size + 1 + 1, 0, none⟩ = some (.pointer (some ⟨W2.heap.size, 0, none⟩)) ∧
    W5.cell? ⟨W2.heap.size, 0, none⟩ = some (.string r1) ∧ W5.cell? ⟨W2.heap.size + 1, 0, none⟩ = some (.string r2) ∧ W5.cell? ⟨W2.heap.size + 1, 7, none⟩ = some (.slice none 0 0) ∧
    W5.heap[w.heap.size + 2]? = some (.map es c) ∧ Below w.heap.size w W5 := by
  rintro W5 rfl
  have e0 := ref0
  have e7 := ref7
  refine ⟨?_, ?_, ?_, ?_, ?_, ?_, ?_⟩
  · rw [World.cell?_alloc_at _ _ _ _ (by simp)]; rfl
  · rw [World.cell?_alloc_past _ _ _ (by simp), World.cell?_alloc_at _ _ _ _ (by simp)]; rfl
  · rw [World.cell?_alloc_past _ _ _ (by simp; omega), World.cell?_alloc_past _ _ _ (by simp; omega), World.cell?_alloc_past _ _ _ (by simp), World.cell?_alloc_at _ _ _ _ rfl]; rfl
  · rw [World.cell?_alloc_past _ _ _ (by simp), World.cell?_alloc_past _ _ _ (by simp), World.cell?_alloc_at _ _ _ _ (by simp)]; rfl
  · rw [World.cell?_alloc_past _ _ _ (by simp), World.cell?_alloc_past _ _ _ (by simp), World.cell?_alloc_at _ _ _ _ (by simp)]; rfl
  · rw [Below.heap_alloc _ _ _ (by simp; omega), Below.heap_alloc _ _ _ (by simp; omega), Below.heap_alloc _ _ _ (by simp; omega), Below.heap_alloc _ _ _ (by omega)]; exact hM
  · exact (((hB.alloc (by omega) _).alloc (by simp; omega) _).alloc (by simp; omega) _).alloc (by simp; omega) _

theorem run_neq_ptr_same' {P : Program} (w : World) {tp te : TypeId} {j : TypeInfo} (a : Addr) (hp : P.underlying tp = some (.pointer te)) (hte : P.info? te = some j) :
    (binOp .neq tp (.pointer (some a)) (.pointer (some a))).run P w = .ok (.bool false) w := by
  have h : ∀ d : Nat, (Op.equalIn (d + 1) tp (.pointer (some a)) (.pointer (some a))).run P w = .ok true w := fun d => by
    simp [Op.equalIn, run_underlying hp, sizeOf, typeInfo, hte, run_sameAddr_same]
  simp only [binOp]
  simp [Op.equal, Op.maxDepth, h 9999]

theorem size28 : (Try.prog.info? 28).map (fun i => i.size) = some 12 := by kernel_rfl
theorem info28 : ∃ i, Try.prog.info? 28 = some i ∧ i.size ≠ 0 := by
  have h := size28
  cases e : Try.prog.info? 28 with
  | none => rw [e] at h; cases h
  | some i => rw [e] at h; exact ⟨i, rfl, by simp at h; omega⟩

theorem below_draws {B : Nat} {a w : World} (h : Below B a w) (n : Nat) : Below B a (w.drewN n) := ⟨h.os, h.tape, h.output, h.size, h.block⟩

theorem neq23 (a : Addr) (w : World) : (binOp .neq 23 (.pointer (some a)) (.pointer (some a))).run Try.prog w = .ok (.bool false) w := by
  obtain ⟨i, hi, _⟩ := info28
  exact run_neq_ptr_same' w a Try.underlying23 hi

theorem pfx_eq (a b : ByteArray) : ((PFX ++ a).toList == (PFX ++ b).toList) = (a.toList == b.toList) := by
  rw [ByteArray.toList_eq, ByteArray.toList_eq, ByteArray.toList_eq, ByteArray.toList_eq, Bool.eq_iff_iff]
  rw [show (PFX ++ a).data.toList = PFX.data.toList ++ a.data.toList by simp, show (PFX ++ b).data.toList = PFX.data.toList ++ b.data.toList by simp, beq_iff_eq, beq_iff_eq, List.append_cancel_left_eq]

theorem bytes_toList {a b : ByteArray} (h : a ≠ b) : (a.toList == b.toList) = false := by
  apply beq_eq_false_iff_ne.2
  intro e
  rw [ByteArray.toList_eq, ByteArray.toList_eq] at e
  exact h (ByteArray.ext (Array.toList_inj.1 e))

set_option maxHeartbeats 400000 in
theorem allOf_long (a b c : ByteArray) (w : World) (hl : (65536 : Int) < a.size ∨ (65536 : Int) < b.size ∨ (65536 : Int) < c.size) :
    Calls Try.prog 3 #[.string a, .string b, .string c] w fun e w' => e = .returned (.bool true) ∧ w = w' := by
  by_cases c1 : (65536 : Int) < a.size
  · go_enter Try.func3, Try.ntmps3
    go_wp2_with (go_at_call 6; refine (bytes6 _ _ _ _).mono ?_; rintro e w' ⟨r, rfl, rfl⟩)
    all_goals (go_ret; exact ⟨rfl, rfl⟩)
  by_cases c2 : (65536 : Int) < b.size
  · go_enter Try.func3, Try.ntmps3
    go_wp2_with (go_at_call 6; refine (bytes6 _ _ _ _).mono ?_; rintro e w' ⟨r, rfl, rfl⟩)
    all_goals (go_ret; exact ⟨rfl, rfl⟩)
  have c3 : (65536 : Int) < c.size := by omega
  go_enter Try.func3, Try.ntmps3
  go_wp2_with (go_at_call 6; refine (bytes6 _ _ _ _).mono ?_; rintro e w' ⟨r, rfl, rfl⟩)
  all_goals (go_ret; exact ⟨rfl, rfl⟩)

set_option maxHeartbeats 800000 in
theorem allOf_main (name other desc : ByteArray) (w : World) (h1 : ¬ (65536 : Int) < name.size) (h2 : ¬ (65536 : Int) < other.size) (h3 : ¬ (65536 : Int) < desc.size) :
    Calls Try.prog 3 #[.string name, .string other, .string desc] w fun e w' => e = .returned (.bool true) ∧ Below w.heap.size w w' := by
  obtain ⟨W1, W2, es, c, hu1, hu2, hbel, hsz, hmap, hlook⟩ := two_puts (((w.alloc (.cells (descCells D1) 28)).alloc (.cells (descCells D2) 28)).alloc (.map #[] 0)) name other (.pointer (some ⟨w.heap.size, 0, none⟩)) (.pointer (some ⟨w.heap.size + 1, 0, none⟩)) (w.heap.size + 2) (by
    have := (MapKept.heap_alloc ((w.alloc (.cells (descCells D1) 28)).alloc (.cells (descCells D2) 28)) (.map #[] 0)).1
    simpa using this)
  simp only [descCells, D1, D2] at hu1
  have hmm := @run_makeMap Try.prog
  go_enter Try.func3, Try.ntmps3
  go_wp2_with fail
  refine (bytes6 _ _ _ _).mono ?_
  rintro e w' ⟨r, rfl, rfl⟩
  cases r
  · go_wp2
    go_ret
    exact ⟨rfl, Below.refl _ _⟩
  · go_wp2_with fail
    clear hu1 hu2 hmm
    have hB : Below w.heap.size w W2 := ((((Below.refl w.heap.size w).alloc (Nat.le_refl _) _).alloc (by simp) _).alloc (by simp; omega) _).trans (hbel.mono (by omega))
    have hN : w.heap.size + 2 < W2.heap.size := by rw [hsz]; simp
    have HM : Hid _ := hmap
    have HL : Hid _ := hlook
    clear hsz hbel hmap hlook
    refine (ref_any _ (by omega) _).mono ?_
    rintro e w' ⟨rfl, rfl⟩
    go_wp2_with fail
    refine (ref_any _ (by omega) _).mono ?_
    rintro e w' ⟨rfl, rfl⟩
    go_wp2_with fail
    obtain ⟨W5, hW5⟩ : ∃ W5, W5 = (((W2.alloc (.cells (refCells (PFX ++ name)) 28)).alloc (.cells (refCells (PFX ++ other)) 28)).alloc (.cells #[.pointer (some ⟨W2.heap.size, 0, none⟩)] 23)).alloc
      (.cells #[.string ⟨#[]⟩, .string desc, .string ⟨#[]⟩, .string ⟨#[]⟩, .map none, .pointer none, .pointer none, .slice (some ⟨W2.heap.size + 1 + 1, 0, none⟩) 1 1, .slice none 0 0, .string ⟨#[]⟩, .string ⟨#[]⟩, .slice none 0 0] 28) := ⟨_, rfl⟩
    rw [← hW5]
    obtain ⟨f1, f2, f3, f4, f5, f6, f7⟩ := five w W2 (PFX ++ name) (PFX ++ other) desc es c hB hN HM.out W5 hW5
    obtain ⟨g1, g2⟩ := HL.out W5 f6
    clear hW5 HM HL hB f6
    have hneq := neq23
    refine (resolve_allOf _ _ _ _ name _ _ f1 f2 f3 g1).mono ?_
    rintro e w' ⟨rfl, rfl⟩
    by_cases e : name = other
    · subst e
      rw [if_pos rfl] at g2
      clear g1
      go_wp2_with fail
      refine (resolve_bare _ _ name _ _ f5 f4 g2).mono ?_
      rintro e w' ⟨rfl, rfl⟩
      go_wp2
      go_quiet (fail)
      go_wp2
      go_ret
      exact ⟨rfl, below_draws f7 _⟩
    · rw [if_neg e] at g2
      have e1 := bytes_toList e
      have e2 := pfx_eq name other
      rw [e1] at e2
      clear g1
      go_wp2_with fail
      refine (resolve_bare _ _ other _ _ f5 f4 g2).mono ?_
      rintro e w' ⟨rfl, rfl⟩
      go_wp2
      go_quiet (fail)
      go_wp2
      go_ret
      exact ⟨rfl, below_draws f7 _⟩

theorem allOf_any (name other desc : ByteArray) (w : World) :
    Calls Try.prog 3 #[.string name, .string other, .string desc] w fun e w' => e = .returned (.bool true) ∧ Below w.heap.size w w' := by
  by_cases h : (65536 : Int) < name.size ∨ (65536 : Int) < other.size ∨ (65536 : Int) < desc.size
  · refine (allOf_long name other desc w h).mono fun e w' ⟨he, hw⟩ => ⟨he, ?_⟩
    subst hw; exact Below.refl _ _
  · exact allOf_main name other desc w (by omega) (by omega) (by omega)
end Go.Proofs.Qxb6614045a
