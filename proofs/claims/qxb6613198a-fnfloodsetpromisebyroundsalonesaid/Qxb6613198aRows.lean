/-
  No cell of these rows narrows 'for every input' (looked for: loops, veiled, ifaces, maps, wideKeys, modest, calm, conditions, laid).
  DERIVED. THE GIVEN ROWS OF THIS SEAT. 1 by the template 'for every input the law returns true; each argument reads behind the call as it read before'; 0 by the template 'total and deterministic' (their statements: Qxb6613198aTotals.lean).
  GIVEN WITH THE SEED: the statements are not yours to turn. If you find one false, say at which input.
  Laid BY PROGRAM, IN A SANDBOX (cutbox-rows.mjs): the forced cells as the released guide's own fill.sh prints them over the translation 47376dbec5852699… (all of the seat's roots in one cut). By AI agents, Wed Nov 11 2026. No macro, syntax, notation, axiom, sorry.
-/
import Derived.Test.Qxb6613198aChecked
import GoSem.Claim
import GoSem.ClaimJoined
import GoSem.ClaimMapViews
import Derived.JoinedTies
import Derived.KernelRfl
namespace Go.Proofs.Qxb6613198a
/- THE CELL 'sum', in the pinned program and in every row, IS THE sha256 OF THE DUMP (.gsa) THAT Qxb6613198aProg.lean LOADS. Nothing in Lean hashes anything: it is a label: what it is worth is what the hold of that sum in a sandbox is worth. -/
noncomputable def Try.pinned : Pinned := { name := "qxb6613198a", sum := "47376dbec58526990e4cc4865179739de9f63fb42d2901d3d3650d44f41067b5", checked := Try.checked }
namespace Rows
def none {H : Type} : Left H := { results := [], args := [] }

/-- 'zzlaws_root_b1.FnFloodSetPromiseByRoundsAlone': WHATEVER THE INPUT: true; the input reads as it did. -/
def fnFloodSetPromiseByRoundsAloneSpec : ChangeSpec := { name := "fnFloodSetPromiseByRoundsAlone", fn := fun _ => fun
  | [d1, d2, d3, d4, d5, d6, d7] => { results := [.lit (.bool true)], args := [d1, d2, d3, d4, d5, d6, d7] }
  | _ => none }
def fnFloodSetPromiseByRoundsAloneRow : OpenClaim := { program := "qxb6613198a", sum := "47376dbec58526990e4cc4865179739de9f63fb42d2901d3d3650d44f41067b5", func := "example.com/quorumfire/quorumfire/zzlaws_root_b1.FnFloodSetPromiseByRoundsAlone", spec := "fnFloodSetPromiseByRoundsAlone", apart := false }
def FnFloodSetPromiseByRoundsAloneSaid : Prop := fnFloodSetPromiseByRoundsAloneRow.holds Try.pinned (OpenSpec.ofChange fnFloodSetPromiseByRoundsAloneSpec)

/-- ITS FALSE NEIGHBOUR: 'it returns false'. Refute it at one input. -/
def fnFloodSetPromiseByRoundsAloneWrong : ChangeSpec := { name := "fnFloodSetPromiseByRoundsAlone", fn := fun _ => fun
  | [d1, d2, d3, d4, d5, d6, d7] => { results := [.lit (.bool false)], args := [d1, d2, d3, d4, d5, d6, d7] }
  | _ => none }
def FnFloodSetPromiseByRoundsAloneWrongFalsely : Prop := fnFloodSetPromiseByRoundsAloneRow.holds Try.pinned (OpenSpec.ofChange fnFloodSetPromiseByRoundsAloneWrong)

end Rows
end Go.Proofs.Qxb6613198a
