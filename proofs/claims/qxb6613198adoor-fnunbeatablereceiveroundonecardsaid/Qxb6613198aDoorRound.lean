import Derived.Test.Qxb6613198aDoorSilent
namespace Go.Proofs.Qxb6613198aDoor
open Go.ChangeShapes Go.WideShapes Go.ChangeAt Go.RowKit
open Plain
set_option linter.unusedVariables false

/-- What has been decided after t silent rounds; 'now': it was decided at time 0. -/
def decOf (now : Bool) (t : Nat) : Bool := now || decide (1 ≤ t)
def valOf (now : Bool) (input : Int) (t : Nat) : Int := if now then input else if t = 0 then 0 else 1
def rndOf (now : Bool) (t : Nat) : Int := if now then 0 else if t = 0 then 0 else 1

/-- The process after t silent rounds. -/
def Sil (w : World) (k : Blks) (id n lr : Nat) (input : Int) (now : Bool) (t : Nat) : Prop :=
  ∃ cr S SH, St w k id n (lr + 1) lr (decide ((lr : Int) ≤ (t : Int))) (decOf now t) (valOf now input t) (rndOf now t) cr (Ls n id t) ((List.replicate n 0).set id input) S SH

theorem tab_below {w w' : World} {B : Nat} (h : TabAt 0 Lib.deBruijn64tab w) (hb : Below B w w') (h0 : 0 < B) : TabAt 0 Lib.deBruijn64tab w' := by
  intro j hj
  rw [hb.cell (p := ⟨0, j, none⟩) h0]
  exact h j hj

/-- ZZapply (7). -/
theorem zzapply_any (w : World) (k : Blks) (m : Nat) (R : Ending → World → Prop) (h : Calls Tryd.prog 16 #[.pointer (some ⟨k.bp, 0, none⟩), .int .i64 m] w fun e w' => e = .returned (.tuple #[]) ∧ R e w') :
    Calls Tryd.prog 7 #[.pointer (some ⟨k.bp, 0, none⟩), .int .i64 m] w fun e w' => e = .returned (.tuple #[]) ∧ R e w' := by
  have H := hideIt h
  clear h
  go_enter Tryd.func7, Tryd.ntmps7
  go_wp2_with fail
  refine H.out.mono ?_
  rintro e w1 ⟨rfl, hr⟩
  have HR := hideIt hr
  clear hr
  go_wp2
  go_end0
  exact ⟨rfl, HR.out⟩

/-- One silent round. -/
theorem round_any (w : World) (k : Blks) (B id n lr t : Nat) (input : Int) (now : Bool) (h : Sil w k id n lr input now t) (ha : k.apart B) (hB : B ≤ w.heap.size) (h1 : 1 ≤ n) (hn : n ≤ 64) (hid : id < n) (hl : lr ≤ 65536) (ht : t < lr) (hin : now = false → input = 1) (hT : TabAt 0 Lib.deBruijn64tab w) :
    Calls Tryd.prog 8 #[.pointer (some ⟨k.bp, 0, none⟩), .int .i64 ((t + 1 : Nat) : Int), .slice none 0 0] w fun e w' => e = .returned (.tuple #[]) ∧ ∃ cr S, St w' k id n (lr + 1) lr (decide ((lr : Int) ≤ ((t + 1 : Nat) : Int))) (decOf now (t + 1)) (valOf now input (t + 1)) (rndOf now (t + 1)) cr (Ls n id ((t + 1 : Nat) : Int)) ((List.replicate n 0).set id input) S (List.replicate n MAXI) ∧
      S.getD (id * (lr + 1) + (t + 1)) 0 = ((2 ^ id : Nat) : Int) ∧ Below B w w' := by
  obtain ⟨cr, S, SH, st⟩ := h
  have hset : ∀ S' : List Int, S'.length = n * (lr + 1) → ((S'.set (id * (lr + 1) + (t + 1)) (orBit 0 id)).getD (id * (lr + 1) + (t + 1)) 0) = ((2 ^ id : Nat) : Int) := fun S' hS' => by
    have : id * (lr + 1) + (t + 1) < S'.length := by rw [hS']; exact row_lt hid (by omega)
    rw [← orBit_zero (by omega : id < 64)]
    simp [this]
  have L1 : (Ls n id (t : Int)).set id ((t + 1 : Nat) : Int) = Ls n id ((t + 1 : Nat) : Int) := Ls_set _ _ _ _
  refine (receive_any w k B id n (lr + 1) (t + 1) 0 lr _ _ _ _ cr (.slice none 0 0) (Ls n id t) ((List.replicate n 0).set id input) S SH (Ls n id t) ((List.replicate n 0).set id input) (List.replicate n MAXI) (decOf now (t + 1)) (valOf now input (t + 1)) (rndOf now (t + 1)) st ha hB hid (by omega) hn
    (gather_nil_st w k B id n (lr + 1) (t + 1) lr _ _ _ _ cr _ _ S SH st ha hB hn) ?_).mono ?_
  · intro w2 st2 hb2
    rw [L1] at st2 ⊢
    by_cases hd : decOf now t = true
    · have e1 : decOf now (t + 1) = true := by simp [decOf]
      have e2 : valOf now input (t + 1) = valOf now input t := by
        unfold decOf at hd; unfold valOf
        cases now
        · simp at hd
          simp; omega
        · rfl
      have e3 : rndOf now (t + 1) = rndOf now t := by
        unfold decOf at hd; unfold rndOf
        cases now
        · simp at hd
          simp; omega
        · rfl
      rw [e1, e2, e3]
      rw [hd] at st2
      exact applies_done w2 k B id n (lr + 1) (t + 1) lr _ _ _ cr _ _ _ _ st2
    · have hd' : now = false ∧ t = 0 := by
        unfold decOf at hd
        cases now
        · simp at hd; exact ⟨rfl, by omega⟩
        · simp at hd
      obtain ⟨rfl, rfl⟩ := hd'
      have hi := hin rfl
      subst hi
      have e0 : decOf false 0 = false := rfl
      rw [e0] at st2
      refine applies_see w2 k B id n (lr + 1) 1 (2 ^ id) (missing n (2 ^ id)) lr _ _ _ cr _ _ _ _ st2 ha (Nat.le_trans hB hb2.size) h1 hn hid (holds_no n id _ 1 (by decide) hid) (fun j hj hne => by rw [Ls_ne n id j _ hj hne]; decide)
        (Or.inr ⟨Ls_id n id _ hid, by omega, hset S st.ls, bit_lt (by omega), rfl⟩) (by omega) (tab_below hT hb2 ha.z) _ _ _ (Or.inl ⟨sees_one n id hn hid, rfl, rfl, rfl⟩)
  · rintro e w' ⟨rfl, cr', st', hb⟩
    rw [L1] at st'
    exact ⟨rfl, cr', _, st', hset S st.ls, hb⟩

/-- The start: a new process, and the rule applied at time 0. -/
theorem start_any (w w1 : World) (id n lr : Nat) (input : Int) (k : Blks) (rl rf ri re : Nat) (now : Bool) (hf : Fresh w w1 id n lr input k rl rf ri re) (h1 : 1 ≤ n) (hn : n ≤ 64) (hid : id < n) (hlr : 1 ≤ lr) (hinp : input = 0 ∨ input = 1) (hnow : (now = true ∧ (input = 0 ∨ n = 1)) ∨ (now = false ∧ input = 1 ∧ 2 ≤ n)) (hT : TabAt 0 Lib.deBruijn64tab w) :
    Calls Tryd.prog 7 #[.pointer (some ⟨k.bp, 0, none⟩), .int .i64 0] w1 fun e w' => e = .returned (.tuple #[]) ∧ ∃ cr, St w' k id n (lr + 1) lr false (decOf now 0) (valOf now input 0) (rndOf now 0) cr (Ls n id 0) ((List.replicate n 0).set id input) (List.replicate (n * (lr + 1)) 0) (List.replicate n 0) ∧ Below w.heap.size w1 w' := by
  have hB : w.heap.size ≤ w1.heap.size := hf.bel.size
  have st : St w1 k id n (lr + 1) lr false false 0 0 (.slice none 0 0) (Ls n id 0) ((List.replicate n 0).set id input) (List.replicate (n * (lr + 1)) 0) (List.replicate n 0) := hf.st
  refine zzapply_any w1 k 0 (fun _ w' => ∃ cr, St w' k id n (lr + 1) lr false (decOf now 0) (valOf now input 0) (rndOf now 0) cr (Ls n id 0) ((List.replicate n 0).set id input) (List.replicate (n * (lr + 1)) 0) (List.replicate n 0) ∧ Below w.heap.size w1 w') ?_
  have hT1 := tab_below hT hf.bel hf.ap.z
  rcases hinp with rfl | rfl
  · have e : now = true := by rcases hnow with ⟨h, _⟩ | ⟨_, h, _⟩; exact h; cases h
    subst e
    exact applies_zero w1 k w.heap.size id n (lr + 1) 0 lr false 0 0 _ _ _ _ _ st hf.ap hB hn (holds_yes n id 0 (by decide) hid)
  · rcases hnow with ⟨rfl, h | rfl⟩ | ⟨rfl, _, h⟩
    · cases h
    · obtain rfl : id = 0 := by omega
      exact applies_see w1 k w.heap.size 0 1 (lr + 1) 0 0 0 lr false 0 0 _ _ _ _ _ st hf.ap hB h1 hn hid (holds_no 1 0 _ 1 (by decide) hid) (fun j hj hne => by omega) (Or.inl ⟨by rw [Ls_id 1 0 0 hid]; decide, rfl⟩) (by omega) hT1 _ _ _ (Or.inl ⟨sees_alone 0, rfl, rfl, rfl⟩)
    · exact applies_see w1 k w.heap.size id n (lr + 1) 0 0 0 lr false 0 0 _ _ _ _ _ st hf.ap hB h1 hn hid (holds_no n id _ 1 (by decide) hid) (fun j hj hne => by rw [Ls_ne n id j _ hj hne]; decide) (Or.inl ⟨by rw [Ls_id n id 0 hid]; decide, rfl⟩) (by omega) hT1 _ _ _ (Or.inr ⟨sees_not n id h hid, rfl, rfl, rfl⟩)
end Go.Proofs.Qxb6613198aDoor
