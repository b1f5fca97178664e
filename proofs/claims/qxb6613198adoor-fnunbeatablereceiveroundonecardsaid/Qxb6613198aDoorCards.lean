/-
  DERIVED. GIVEN WITH THE SEED: THE CARDS: each row of Qxb6613198aDoorRows.lean that lists a variable, with what it lists TIED to the program's text (the seventh form; the later family's looks); each row that meets fmt, with fmt's text TOLD by the authors' own Lean function (tested against real Go, not proved from fmt's source: count such statements apart). THE CARD IS WHAT COUNTS. Prove the row's statement (the work); the ties are given (Qxb6613198aDoorTie.lean); close each card by the builder's one call (the guide's Derived/Test/ToyasCard.lean, 'card_holds'). Laid BY PROGRAM, IN A SANDBOX (cutbox-door.mjs). By AI agents, Wed Nov 11 2026. No macro, syntax, notation, axiom, sorry.
-/
import Derived.Test.Qxb6613198aDoorRows
import GoSem.ClaimSeven
namespace Go.Proofs.Qxb6613198aDoor
namespace Rows

/-- THE TIED CARD OF 'zzlaws_root_b1.FnUnbeatableReceiveRoundOne'. -/
def fnUnbeatableReceiveRoundOneCard : Claim7 := { stood := { row := fnUnbeatableReceiveRoundOneRow, standIns := [], harness := (true, "7504c234a7875f5b09f526ffa2e313a567d7aaf0e94c5cfb6ebcd6a1cf8cb0f0"), looks := false }, kinds := [], alts := [], laidByText := true, laidKinds := [.data], laidTests := true, laidLooks := .later }
def FnUnbeatableReceiveRoundOneCardSaid : Prop := Claim7.holds Tryd.pinned (.plain (OpenSpec.ofChange fnUnbeatableReceiveRoundOneSpec)) fnUnbeatableReceiveRoundOneCard

/-- THE TIED CARD OF 'zzlaws_root_b1.FnUnbeatableReceiveSilentRun'. -/
def fnUnbeatableReceiveSilentRunCard : Claim7 := { stood := { row := fnUnbeatableReceiveSilentRunRow, standIns := [], harness := (true, "7504c234a7875f5b09f526ffa2e313a567d7aaf0e94c5cfb6ebcd6a1cf8cb0f0"), looks := false }, kinds := [], alts := [], laidByText := true, laidKinds := [.data], laidTests := true, laidLooks := .later }
def FnUnbeatableReceiveSilentRunCardSaid : Prop := Claim7.holds Tryd.pinned (.plain (OpenSpec.ofChange fnUnbeatableReceiveSilentRunSpec)) fnUnbeatableReceiveSilentRunCard
end Rows
end Go.Proofs.Qxb6613198aDoor
