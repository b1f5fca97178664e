import Derived.Test.Qxb6613198aDoorRecv
/-! A region that draws its order and makes memory: a condition that every operation keeps, whatever the order. -/
namespace Go.Proofs.Qxb6613198aDoor
open Go.ChangeShapes Go.WideShapes Go.ChangeAt Go.RowKit

/-- How many operations have not come up yet. -/
def left (listed : Array Bool) : Nat := listed.toList.count false

theorem left_set {listed : Array Bool} {i : Nat} (h : listed.getD i true = false) : left (listed.setIfInBounds i true) + 1 = left listed := by
  have hi : i < listed.size := by
    rcases Nat.lt_or_ge i listed.size with c | c
    · exact c
    · simp [c] at h
  have hv : listed[i] = false := by simpa [hi] using h
  unfold left
  rw [Array.toList_setIfInBounds, List.count_set (by simpa using hi)]
  have : 0 < listed.toList.count false := List.count_pos_iff.2 (by rw [← hv]; simp)
  have e1 : (listed.toList[i] == false) = true := by simp [hv]
  have e2 : ((true : Bool) == false) = false := rfl
  rw [e1, e2]
  simp only [if_true, Bool.false_eq_true, if_false]
  omega

theorem left_pos {listed : Array Bool} {i : Nat} (h : listed.getD i true = false) : 0 < left listed := by
  have := left_set h
  omega

/-- Every operation waits only for earlier ones. -/
def early (ops : Array Oper) : Bool := (List.range ops.size).all fun i => match ops[i]? with | some o => o.after.all fun e => decide (e.on < i) | none => true

theorem early_spec {ops : Array Oper} (h : early ops = true) {i : Nat} {o : Oper} (ho : ops[i]? = some o) : ∀ e ∈ o.after, e.on < i := by
  intro e he
  have hi : i < ops.size := (Array.getElem?_eq_some_iff.1 ho).1
  unfold early at h
  rw [List.all_eq_true] at h
  have := h i (by simpa using hi)
  rw [ho] at this
  simp only [Array.all_eq_true_iff_forall_mem, decide_eq_true_eq] at this
  exact this e he

/-- Where nothing may come up any more, all has come up. -/
theorem all_of_ready {md : Region.Mode} {ops : Array Oper} {listed : Array Bool} (hw : early ops = true) (hs : listed.size = ops.size) (hr : Region.ready md ops listed = []) : ∀ i, i < ops.size → listed.getD i true = true := by
  intro i
  induction i using Nat.strongRecOn with
  | ind i ih =>
    intro hi
    cases hb : listed.getD i true with
    | true => rfl
    | false =>
      have hm : i ∈ Region.ready md ops listed := mem_ready.2 ⟨hb, ops[i], Array.getElem?_eq_getElem hi, fun e he _ => by
        have hlt := early_spec hw (o := ops[i]) (Array.getElem?_eq_getElem hi) e he
        have := ih e.on hlt (by omega)
        have hl : e.on < listed.size := by omega
        simp only [Array.getD, hl, dite_true] at this ⊢
        exact this⟩
      rw [hr] at hm
      cases hm

theorem wpAny_inv {P : Program} {md : Region.Mode} {ops : Array Oper} {Q : Exit → Act → World → Prop} (I : Array Bool → Act → World → Prop) (hw : early ops = true)
    (hsize : ∀ listed a w, I listed a w → listed.size = ops.size)
    (hstep : ∀ listed a w i, I listed a w → i ∈ Region.ready md ops listed → wpOp P ops Q i (fun a' w' => I (listed.setIfInBounds i true) a' w') a w)
    (hdone : ∀ listed a w, I listed a w → (∀ i, i < ops.size → listed.getD i true = true) → Q .normal a w) :
    ∀ (fuel : Nat) (listed : Array Bool) (a : Act) (w : World), left listed ≤ fuel → I listed a w → wpAny P md ops Q fuel listed a w := by
  intro fuel
  induction fuel with
  | zero =>
    intro listed a w hf h
    have hr : Region.ready md ops listed = [] := by
      cases hc : Region.ready md ops listed with
      | nil => rfl
      | cons i l =>
        have hm : i ∈ Region.ready md ops listed := by rw [hc]; simp
        have := left_pos (mem_ready.1 hm).1
        omega
    exact ⟨hr, hdone listed a w h (all_of_ready hw (hsize _ _ _ h) hr)⟩
  | succ fuel ih =>
    intro listed a w hf h
    refine ⟨fun hr => hdone listed a w h (all_of_ready hw (hsize _ _ _ h) hr), fun i hi => ?_⟩
    refine wpOp_mono (fun a' w' h' => ih _ a' w' ?_ h') (hstep listed a w i h hi)
    have := left_set (mem_ready.1 hi).1
    omega
end Go.Proofs.Qxb6613198aDoor
