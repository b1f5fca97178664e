import Derived.Test.Qxb6614045aRows
import Derived.Test.Qxb6614045aShelf
import Derived.WalkKit
import Derived.ProofKit
import Derived.OpenShut
import Derived.ShutString
import Derived.Maps.Own
namespace Go.Proofs.Qxb6614045a
open Go.ChangeShapes Go.WideShapes Go.ChangeAt Go.RowKit
open Go.ChangeMaps (setBlock heap_setBlock_same heap_setBlock_other)

theorem hideIt' {p : Prop} (h : p) : Hid p := h

/-! ### Maps keyed by strings, entry by entry -/
section
variable {P : Program} {w : World} {mty kt et : TypeId} {r clock : Nat} {es : Array MapEntry}

theorem run_upd_push (hm : P.underlying mty = some (.map kt et)) (hk : P.underlying kt = some .string) (hb : w.heap[r]? = some (.map es clock)) (s : ByteArray) (val : Value)
    (hf : Instr.findNow .string (.string s) es.toList 0 = some none) :
    (Instr.mapUpdate mty (.map (some r)) (.string s) val).run P w = .ok () (setBlock w r (.map (es.push { key := .string s, val := val, born := clock }) (clock + 1))) := by
  have hc : (Instr.checkKey false 10000 kt (.string s)).run P w = .ok () w := MapKept.run_checkKey (k := .string s) hk (by simp [MapKept.IsKey]) false 9999
  simp [Instr.mapUpdate, run_underlying hm, MapKept.run_getObj_map hb, hc, MapKept.run_findKey hk hf, MapKept.run_setObj_map _ hb, Result.andThen, setBlock]

theorem run_upd_same (hm : P.underlying mty = some (.map kt et)) (hk : P.underlying kt = some .string) (s : ByteArray) (v0 val : Value) (b0 : Nat) (hb : w.heap[r]? = some (.map #[{ key := .string s, val := v0, born := b0 }] clock)) :
    (Instr.mapUpdate mty (.map (some r)) (.string s) val).run P w = .ok () (setBlock w r (.map #[{ key := .string s, val := val, born := b0 }] clock)) := by
  have hc : (Instr.checkKey false 10000 kt (.string s)).run P w = .ok () w := MapKept.run_checkKey (k := .string s) hk (by simp [MapKept.IsKey]) false 9999
  have hs : (s == s) = true := (MapKept.bytes_beq s s).2 rfl
  have hf : Instr.findNow .string (.string s) [({ key := .string s, val := v0, born := b0 } : MapEntry)] 0 = some (some (0, v0)) := by simp [Instr.findNow, Instr.sameNow, hs]
  have hst : (Instr.keyThatStays (.string s) (.string s)).run P w = .ok (.string s) w := MapKept.run_keyThatStays (d := .string) (by simp [MapKept.IsKey])
  simp [Instr.mapUpdate, run_underlying hm, MapKept.run_getObj_map hb, hc, MapKept.run_findKey hk hf, hst, MapKept.run_setObj_map _ hb, Result.andThen, setBlock, Array.modify, Array.modifyM]

theorem run_look (hm : P.underlying mty = some (.map kt et)) (hk : P.underlying kt = some .string) (hb : w.heap[r]? = some (.map es clock)) (s : ByteArray) (a : Option (Nat × Value)) (z : Value)
    (hz : (zeroValue et).run P w = .ok z w) (hf : Instr.findNow .string (.string s) es.toList 0 = some a) :
    (Instr.lookup mty (.map (some r)) (.string s) false).run P w = .ok ((a.map (·.2)).getD z) w := by
  have hc : ∀ b, (Instr.checkKey b 10000 kt (.string s)).run P w = .ok () w := fun b => MapKept.run_checkKey (k := .string s) hk (by simp [MapKept.IsKey]) b 9999
  cases a with
  | none => simp [Instr.lookup, run_underlying hm, MapKept.run_getObj_map hb, hc, MapKept.run_findKey hk hf, hz, Result.andThen]
  | some a => simp [Instr.lookup, run_underlying hm, MapKept.run_getObj_map hb, hc, MapKept.run_findKey hk hf, Result.andThen]

theorem bytes_ne {a b : ByteArray} (h : a ≠ b) : (a == b) = false := by
  cases e : (a == b)
  · rfl
  · exact absurd ((MapKept.bytes_beq a b).1 e) h
end

/-- 'm[k] = v' at the operation, the world behind it told by 'F'. -/
theorem wpList_mapUpd {P : Program} (w : World) {ops : Array Oper} {rest : List Oper} {o : Oper} {a : Act} {Q : Exit → Act → World → Prop}
    (hg : o.guard = none) (m x v : Operand) (t : TypeId) (hop : o.op = Op.mapUpdate t m x v) (mv kv vv : Value) (hm : a.eval m = mv) (hx : a.eval x = kv) (hv : a.eval v = vv)
    (w' : World) (hrun : (Instr.mapUpdate t mv kv vv).run P w = .ok () w') (hK : wpList P ops Q rest (a.put o.dst undef) w') :
    wpList P ops Q (o :: rest) a w := by
  refine wpList_plain hg fun K' hK' => ?_
  unfold Oper.wp
  simp [execOp, hop, hm, hx, hv, hrun, Result.andThen]
  exact hK' _ _ hK

theorem wpList_mapIns {P : Program} (w : World) {ops : Array Oper} {rest : List Oper} {o : Oper} {a : Act} {Q : Exit → Act → World → Prop}
    (hg : o.guard = none) (m x v : Operand) (t : TypeId) (hop : o.op = Op.insert t m x v) (mv kv vv : Value) (hm : a.eval m = mv) (hx : a.eval x = kv) (hv : a.eval v = vv)
    (w' : World) (hrun : (Instr.mapUpdate t mv kv vv).run P w = .ok () w') (hK : wpList P ops Q rest (a.put o.dst undef) w') :
    wpList P ops Q (o :: rest) a w := by
  refine wpList_plain hg fun K' hK' => ?_
  unfold Oper.wp
  simp [execOp, hop, hm, hx, hv, hrun, Result.andThen]
  exact hK' _ _ hK

/-! ### The prefix -/
def PFX : ByteArray := ⟨#[35, 47, 99, 111, 109, 112, 111, 110, 101, 110, 116, 115, 47, 115, 99, 104, 101, 109, 97, 115, 47]⟩

theorem trim_pfx (n : ByteArray) : (⟨(Lib.trimPrefix (PFX ++ n).data.toList PFX.data.toList).toArray⟩ : ByteArray) = n := by
  have e : (PFX ++ n).data.toList = PFX.data.toList ++ n.data.toList := by simp
  rw [e]
  have h : Lib.hasPrefix (PFX.data.toList ++ n.data.toList) PFX.data.toList = true := by simp [Lib.hasPrefix]
  simp [Lib.trimPrefix, h]

/-- What 'Ref(name)' lays. -/
def refCells (r : ByteArray) : Array Value :=
  #[.string r, .string ⟨#[]⟩, .string ⟨#[]⟩, .string ⟨#[]⟩, .map none, .pointer none, .pointer none, .slice none 0 0, .slice none 0 0, .string ⟨#[]⟩, .string ⟨#[]⟩, .slice none 0 0]

set_option maxHeartbeats 400000 in
theorem ref_any (n : ByteArray) (hn : n.size ≤ 65536) (w : World) :
    Calls Try.prog 7 #[.string n] w fun e w' => e = .returned (.pointer (some ⟨w.heap.size, 0, none⟩)) ∧ w' = w.alloc (.cells (refCells (PFX ++ n)) 28) := by
  go_enter Try.func7, Try.ntmps7
  go_wp2
  go_ret
  exact ⟨rfl, rfl⟩

theorem trim_call (n : ByteArray) (w : World) :
    Calls Try.prog 13 #[.string (PFX ++ n), .string ⟨#[35, 47, 99, 111, 109, 112, 111, 110, 101, 110, 116, 115, 47, 115, 99, 104, 101, 109, 97, 115, 47]⟩] w fun e w' => e = .returned (.string n) ∧ w = w' := by
  refine (Try.strings_TrimPrefix (PFX ++ n) PFX w).mono ?_
  rintro e w' ⟨rfl, rfl⟩
  exact ⟨by rw [trim_pfx], rfl⟩

theorem pfx_ne (n : ByteArray) : (PFX ++ n).toList.isEmpty = false := by
  rw [ByteArray.toList_eq]
  simp [PFX]

set_option maxHeartbeats 400000 in
/-- Resolve at a bare reference. -/
theorem resolve_bare (m b : Nat) (n : ByteArray) (v : Value) (w : World) (h7 : w.cell? ⟨b, 7, none⟩ = some (.slice none 0 0)) (h0 : w.cell? ⟨b, 0, none⟩ = some (.string (PFX ++ n)))
    (hlook : (Instr.lookup 29 (.map (some m)) (.string n) false).run Try.prog w = .ok v w) :
    Calls Try.prog 8 #[.map (some m), .pointer (some ⟨b, 0, none⟩)] w fun e w' => e = .returned v ∧ w = w' := by
  have hne := pfx_ne n
  go_enter Try.func8, Try.ntmps8
  go_wp2_with (go_at_call 13; refine (trim_call n _).mono ?_; rintro e w' ⟨rfl, rfl⟩)
  go_ret
  exact ⟨rfl, rfl⟩

set_option maxHeartbeats 400000 in
/-- Resolve at a schema whose allOf holds one reference alone. -/
theorem resolve_allOf (m b c d : Nat) (n : ByteArray) (v : Value) (w : World) (h7 : w.cell? ⟨b, 7, none⟩ = some (.slice (some ⟨c, 0, none⟩) 1 1)) (hc : w.cell? ⟨c, 0, none⟩ = some (.pointer (some ⟨d, 0, none⟩)))
    (h0 : w.cell? ⟨d, 0, none⟩ = some (.string (PFX ++ n))) (hlook : (Instr.lookup 29 (.map (some m)) (.string n) false).run Try.prog w = .ok v w) :
    Calls Try.prog 8 #[.map (some m), .pointer (some ⟨b, 0, none⟩)] w fun e w' => e = .returned v ∧ w = w' := by
  have hne := pfx_ne n
  go_enter Try.func8, Try.ntmps8
  go_wp2_with (go_at_call 13; refine (trim_call n _).mono ?_; rintro e w' ⟨rfl, rfl⟩)
  go_ret
  exact ⟨rfl, rfl⟩

set_option maxHeartbeats 400000 in
theorem bytes6 (a b c : ByteArray) (w : World) :
    Calls Try.prog 6 #[.string a, .string b, .string c] w fun e w' => ∃ r : Bool, e = .returned (.bool r) ∧ w = w' := by
  go_enter Try.func6, Try.ntmps6
  go_wp2
  all_goals (go_ret; exact ⟨_, rfl, rfl⟩)

theorem bytes11 (a b : ByteArray) (w : World) :
    Calls Try.prog 11 #[.string a, .string b] w fun e w' => ∃ r : Bool, e = .returned (.bool r) ∧ w = w' := by
  go_enter Try.func11, Try.ntmps11
  go_wp2
  all_goals (go_ret; exact ⟨_, rfl, rfl⟩)

theorem ref0 (r : ByteArray) : (refCells r)[0]? = some (.string r) := rfl
theorem ref7 (r : ByteArray) : (refCells r)[7]? = some (.slice none 0 0) := rfl

theorem eql24 (w : World) : (binOp .eql 24 (.map none) (.map none)).run Try.prog w = .ok (.bool true) w := by kernel_rfl
theorem eql25 (w : World) : (binOp .eql 25 (.slice none 0 0) (.slice none 0 0)).run Try.prog w = .ok (.bool true) w := by kernel_rfl
theorem eql26 (w : World) : (binOp .eql 26 (.slice none 0 0) (.slice none 0 0)).run Try.prog w = .ok (.bool true) w := by kernel_rfl

set_option maxHeartbeats 400000 in
/-- zzOnlyRefSet (12) at what 'Ref' lays. -/
theorem only_any (b : Nat) (r : ByteArray) (w : World) (hc : ∀ j, w.cell? ⟨b, j, none⟩ = (refCells r)[j]?) :
    Calls Try.prog 12 #[.pointer (some ⟨b, 0, none⟩)] w fun e w' => e = .returned (.bool true) ∧ w = w' := by
  have c1 := hc 1
  have c2 := hc 2
  have c3 := hc 3
  have c4 := hc 4
  have c5 := hc 5
  have c6 := hc 6
  have c7 := hc 7
  have c8 := hc 8
  have c9 := hc 9
  have c10 := hc 10
  have c11 := hc 11
  clear hc
  simp [refCells] at c1 c2 c3 c4 c5 c6 c7 c8 c9 c10 c11
  have e24 := eql24
  have e25 := eql25
  have e26 := eql26
  go_enter Try.func12, Try.ntmps12
  go_wp2
  go_ret
  exact ⟨rfl, rfl⟩
end Go.Proofs.Qxb6614045a
