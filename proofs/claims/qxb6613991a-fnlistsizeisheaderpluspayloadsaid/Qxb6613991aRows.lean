/-
  No cell of these rows narrows 'for every input' (looked for: loops, veiled, ifaces, maps, wideKeys, modest, calm, conditions, laid).
  DERIVED. THE GIVEN ROWS OF THIS SEAT. 4 by the template 'for every input the law returns true; each argument reads behind the call as it read before'; 0 by the template 'total and deterministic' (their statements: Qxb6613991aTotals.lean).
  GIVEN WITH THE SEED: the statements are not yours to turn. If you find one false, say at which input.
  Laid BY PROGRAM, IN A SANDBOX (cutbox-rows.mjs): the forced cells as the released guide's own fill.sh prints them over the translation 981fae4e5adb9d69… (all of the seat's roots in one cut). By AI agents, Wed Nov 11 2026. No macro, syntax, notation, axiom, sorry.
-/
import Derived.Test.Qxb6613991aChecked
import GoSem.Claim
import GoSem.ClaimJoined
import GoSem.ClaimMapViews
import Derived.JoinedTies
import Derived.KernelRfl
namespace Go.Proofs.Qxb6613991a
/- THE CELL 'sum', in the pinned program and in every row, IS THE sha256 OF THE DUMP (.gsa) THAT Qxb6613991aProg.lean LOADS. Nothing in Lean hashes anything: it is a label: what it is worth is what the hold of that sum in a sandbox is worth. -/
noncomputable def Try.pinned : Pinned := { name := "qxb6613991a", sum := "981fae4e5adb9d69f1b286d777c58a462f5949e3fe7489ad9d9548a45392b08a", checked := Try.checked }
namespace Rows
def none {H : Type} : Left H := { results := [], args := [] }

/-- 'zzlaws_internal_rlp_b1.FnListSizeIsHeaderPlusPayload': WHATEVER THE INPUT: true; the input reads as it did. -/
def fnListSizeIsHeaderPlusPayloadSpec : ChangeSpec := { name := "fnListSizeIsHeaderPlusPayload", fn := fun _ => fun
  | [d] => { results := [.lit (.bool true)], args := [d] }
  | _ => none }
def fnListSizeIsHeaderPlusPayloadRow : OpenClaim := { program := "qxb6613991a", sum := "981fae4e5adb9d69f1b286d777c58a462f5949e3fe7489ad9d9548a45392b08a", func := "example.com/whereabouts/whereabouts/zzlaws_internal_rlp_b1.FnListSizeIsHeaderPlusPayload", spec := "fnListSizeIsHeaderPlusPayload", apart := false }
def FnListSizeIsHeaderPlusPayloadSaid : Prop := fnListSizeIsHeaderPlusPayloadRow.holds Try.pinned (OpenSpec.ofChange fnListSizeIsHeaderPlusPayloadSpec)

/-- ITS FALSE NEIGHBOUR: 'it returns false'. Refute it at one input. -/
def fnListSizeIsHeaderPlusPayloadWrong : ChangeSpec := { name := "fnListSizeIsHeaderPlusPayload", fn := fun _ => fun
  | [d] => { results := [.lit (.bool false)], args := [d] }
  | _ => none }
def FnListSizeIsHeaderPlusPayloadWrongFalsely : Prop := fnListSizeIsHeaderPlusPayloadRow.holds Try.pinned (OpenSpec.ofChange fnListSizeIsHeaderPlusPayloadWrong)

/-- 'zzlaws_internal_rlp_b1.FnListSizeGrowsWithPayload': WHATEVER THE INPUT: true; the input reads as it did. -/
def fnListSizeGrowsWithPayloadSpec : ChangeSpec := { name := "fnListSizeGrowsWithPayload", fn := fun _ => fun
  | [d1, d2] => { results := [.lit (.bool true)], args := [d1, d2] }
  | _ => none }
def fnListSizeGrowsWithPayloadRow : OpenClaim := { program := "qxb6613991a", sum := "981fae4e5adb9d69f1b286d777c58a462f5949e3fe7489ad9d9548a45392b08a", func := "example.com/whereabouts/whereabouts/zzlaws_internal_rlp_b1.FnListSizeGrowsWithPayload", spec := "fnListSizeGrowsWithPayload", apart := false }
def FnListSizeGrowsWithPayloadSaid : Prop := fnListSizeGrowsWithPayloadRow.holds Try.pinned (OpenSpec.ofChange fnListSizeGrowsWithPayloadSpec)

/-- ITS FALSE NEIGHBOUR: 'it returns false'. Refute it at one input. -/
def fnListSizeGrowsWithPayloadWrong : ChangeSpec := { name := "fnListSizeGrowsWithPayload", fn := fun _ => fun
  | [d1, d2] => { results := [.lit (.bool false)], args := [d1, d2] }
  | _ => none }
def FnListSizeGrowsWithPayloadWrongFalsely : Prop := fnListSizeGrowsWithPayloadRow.holds Try.pinned (OpenSpec.ofChange fnListSizeGrowsWithPayloadWrong)

/-- 'zzlaws_internal_rlp_b1.FnAppendListIsDstThenCanonicalHeaderThenPayload': WHATEVER THE INPUT: true; the input reads as it did. -/
def fnAppendListIsDstThenCanonicalHeaderThenPayloadSpec : ChangeSpec := { name := "fnAppendListIsDstThenCanonicalHeaderThenPayload", fn := fun _ => fun
  | [d1, d2] => { results := [.lit (.bool true)], args := [d1, d2] }
  | _ => none }
def fnAppendListIsDstThenCanonicalHeaderThenPayloadRow : OpenClaim := { program := "qxb6613991a", sum := "981fae4e5adb9d69f1b286d777c58a462f5949e3fe7489ad9d9548a45392b08a", func := "example.com/whereabouts/whereabouts/zzlaws_internal_rlp_b1.FnAppendListIsDstThenCanonicalHeaderThenPayload", spec := "fnAppendListIsDstThenCanonicalHeaderThenPayload", apart := false }
def FnAppendListIsDstThenCanonicalHeaderThenPayloadSaid : Prop := fnAppendListIsDstThenCanonicalHeaderThenPayloadRow.holds Try.pinned (OpenSpec.ofChange fnAppendListIsDstThenCanonicalHeaderThenPayloadSpec)

/-- ITS FALSE NEIGHBOUR: 'it returns false'. Refute it at one input. -/
def fnAppendListIsDstThenCanonicalHeaderThenPayloadWrong : ChangeSpec := { name := "fnAppendListIsDstThenCanonicalHeaderThenPayload", fn := fun _ => fun
  | [d1, d2] => { results := [.lit (.bool false)], args := [d1, d2] }
  | _ => none }
def FnAppendListIsDstThenCanonicalHeaderThenPayloadWrongFalsely : Prop := fnAppendListIsDstThenCanonicalHeaderThenPayloadRow.holds Try.pinned (OpenSpec.ofChange fnAppendListIsDstThenCanonicalHeaderThenPayloadWrong)

/-- 'zzlaws_internal_rlp_b1.FnAppendListIsPrefixFreeAndInjective': WHATEVER THE INPUT: true; the input reads as it did. -/
def fnAppendListIsPrefixFreeAndInjectiveSpec : ChangeSpec := { name := "fnAppendListIsPrefixFreeAndInjective", fn := fun _ => fun
  | [d1, d2] => { results := [.lit (.bool true)], args := [d1, d2] }
  | _ => none }
def fnAppendListIsPrefixFreeAndInjectiveRow : OpenClaim := { program := "qxb6613991a", sum := "981fae4e5adb9d69f1b286d777c58a462f5949e3fe7489ad9d9548a45392b08a", func := "example.com/whereabouts/whereabouts/zzlaws_internal_rlp_b1.FnAppendListIsPrefixFreeAndInjective", spec := "fnAppendListIsPrefixFreeAndInjective", apart := false }
def FnAppendListIsPrefixFreeAndInjectiveSaid : Prop := fnAppendListIsPrefixFreeAndInjectiveRow.holds Try.pinned (OpenSpec.ofChange fnAppendListIsPrefixFreeAndInjectiveSpec)

/-- ITS FALSE NEIGHBOUR: 'it returns false'. Refute it at one input. -/
def fnAppendListIsPrefixFreeAndInjectiveWrong : ChangeSpec := { name := "fnAppendListIsPrefixFreeAndInjective", fn := fun _ => fun
  | [d1, d2] => { results := [.lit (.bool false)], args := [d1, d2] }
  | _ => none }
def FnAppendListIsPrefixFreeAndInjectiveWrongFalsely : Prop := fnAppendListIsPrefixFreeAndInjectiveRow.holds Try.pinned (OpenSpec.ofChange fnAppendListIsPrefixFreeAndInjectiveWrong)

end Rows
end Go.Proofs.Qxb6613991a
