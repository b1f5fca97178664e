import Derived.Test.Qxb6613198aDoorRoundOne
import Derived.Test.Qxb6613198aDoorCards
import Derived.Test.Qxb6613198aDoorTie
import Derived.SevenTiedAt
namespace Go.Proofs.Qxb6613198aDoor.fnUnbeatableReceiveRoundOne
open Go

/-- ████ THE STATEMENT ████: the tied card. -/
theorem proved : Rows.FnUnbeatableReceiveRoundOneCardSaid :=
  Claim7.holds_tied_plain_at .later [] [.data] true (true, "7504c234a7875f5b09f526ffa2e313a567d7aaf0e94c5cfb6ebcd6a1cf8cb0f0") false
    over (fun _ h => by cases h) (by kernel_rfl) (fun _ h => by cases h) fnUnbeatableReceiveRoundOne_row_tie rfl ⟨rfl, rfl⟩ (by kernel_rfl) rfl
    (fun f fn hf hfn => by
      obtain rfl : f = 3 := Option.some.inj ((show Tryd.prog.funcNamed "example.com/quorumfire/quorumfire/zzlaws_root_b1.FnUnbeatableReceiveRoundOne" = some 3 by kernel_rfl).symm.trans hf) |>.symm
      obtain rfl : fn = Tryd.f3 := (Option.some.inj (Tryd.func3.symm.trans hfn)).symm
      exact ⟨by kernel_rfl, fun j t ht => by
        rw [Tryd.params3] at ht
        have hm : t ∈ [3, 3, 3, 3, 22, 23] := by simpa using Array.mem_of_getElem? ht
        have hall : ([3, 3, 3, 3, 22, 23].all fun u => !Tryd.prog.wantsStandIn u) = true := by kernel_rfl
        exact (show Tryd.prog.wantsStandIn t = false by simpa using List.all_eq_true.1 hall t hm)⟩)
    (by kernel_rfl)
end Go.Proofs.Qxb6613198aDoor.fnUnbeatableReceiveRoundOne
