/-
  No cell of these rows narrows 'for every input' (looked for: loops, veiled, ifaces, maps, wideKeys, modest, calm, conditions, laid).
  DERIVED. THE GIVEN ROWS OF THIS SEAT. 3 by the template 'for every input the law returns true; each argument reads behind the call as it read before'; 0 by the template 'total and deterministic' (their statements: Qxb6614045aTotals.lean).
  GIVEN WITH THE SEED: the statements are not yours to turn. If you find one false, say at which input.
  Laid BY PROGRAM, IN A SANDBOX (cutbox-rows.mjs): the forced cells as the released guide's own fill.sh prints them over the translation 4a9556a9944c7ec3… (all of the seat's roots in one cut). By AI agents, Wed Nov 11 2026. No macro, syntax, notation, axiom, sorry.
-/
import Derived.Test.Qxb6614045aChecked
import GoSem.Claim
import GoSem.ClaimJoined
import GoSem.ClaimMapViews
import Derived.JoinedTies
import Derived.KernelRfl
namespace Go.Proofs.Qxb6614045a
/- THE CELL 'sum', in the pinned program and in every row, IS THE sha256 OF THE DUMP (.gsa) THAT Qxb6614045aProg.lean LOADS. Nothing in Lean hashes anything: it is a label: what it is worth is what the hold of that sum in a sandbox is worth. -/
noncomputable def Try.pinned : Pinned := { name := "qxb6614045a", sum := "4a9556a9944c7ec392bf16cd46878311fe852a05b16d1c922b6d6b9b29b4fe8a", checked := Try.checked }
namespace Rows
def none {H : Type} : Left H := { results := [], args := [] }

/-- 'zzlaws_openapi_b1.FnRefInAllOfResolvesByName': WHATEVER THE INPUT: true; the input reads as it did. -/
def fnRefInAllOfResolvesByNameSpec : ChangeSpec := { name := "fnRefInAllOfResolvesByName", fn := fun _ => fun
  | [d1, d2, d3] => { results := [.lit (.bool true)], args := [d1, d2, d3] }
  | _ => none }
def fnRefInAllOfResolvesByNameRow : OpenClaim := { program := "qxb6614045a", sum := "4a9556a9944c7ec392bf16cd46878311fe852a05b16d1c922b6d6b9b29b4fe8a", func := "example.com/never-stale/never-stale/zzlaws_openapi_b1.FnRefInAllOfResolvesByName", spec := "fnRefInAllOfResolvesByName", apart := false }
def FnRefInAllOfResolvesByNameSaid : Prop := fnRefInAllOfResolvesByNameRow.holds Try.pinned (OpenSpec.ofChange fnRefInAllOfResolvesByNameSpec)

/-- ITS FALSE NEIGHBOUR: 'it returns false'. Refute it at one input. -/
def fnRefInAllOfResolvesByNameWrong : ChangeSpec := { name := "fnRefInAllOfResolvesByName", fn := fun _ => fun
  | [d1, d2, d3] => { results := [.lit (.bool false)], args := [d1, d2, d3] }
  | _ => none }
def FnRefInAllOfResolvesByNameWrongFalsely : Prop := fnRefInAllOfResolvesByNameRow.holds Try.pinned (OpenSpec.ofChange fnRefInAllOfResolvesByNameWrong)

/-- 'zzlaws_openapi_b1.FnIsOfTypePartialOrder': WHATEVER THE INPUT: true; the input reads as it did. -/
def fnIsOfTypePartialOrderSpec : ChangeSpec := { name := "fnIsOfTypePartialOrder", fn := fun _ => fun
  | [d1, d2, d3] => { results := [.lit (.bool true)], args := [d1, d2, d3] }
  | _ => none }
def fnIsOfTypePartialOrderRow : OpenClaim := { program := "qxb6614045a", sum := "4a9556a9944c7ec392bf16cd46878311fe852a05b16d1c922b6d6b9b29b4fe8a", func := "example.com/never-stale/never-stale/zzlaws_openapi_b1.FnIsOfTypePartialOrder", spec := "fnIsOfTypePartialOrder", apart := false }
def FnIsOfTypePartialOrderSaid : Prop := fnIsOfTypePartialOrderRow.holds Try.pinned (OpenSpec.ofChange fnIsOfTypePartialOrderSpec)

/-- ITS FALSE NEIGHBOUR: 'it returns false'. Refute it at one input. -/
def fnIsOfTypePartialOrderWrong : ChangeSpec := { name := "fnIsOfTypePartialOrder", fn := fun _ => fun
  | [d1, d2, d3] => { results := [.lit (.bool false)], args := [d1, d2, d3] }
  | _ => none }
def FnIsOfTypePartialOrderWrongFalsely : Prop := fnIsOfTypePartialOrderRow.holds Try.pinned (OpenSpec.ofChange fnIsOfTypePartialOrderWrong)

/-- 'zzlaws_openapi_b1.FnRefResolvesToTheNamedSchema': WHATEVER THE INPUT: true; the input reads as it did. -/
def fnRefResolvesToTheNamedSchemaSpec : ChangeSpec := { name := "fnRefResolvesToTheNamedSchema", fn := fun _ => fun
  | [d1, d2] => { results := [.lit (.bool true)], args := [d1, d2] }
  | _ => none }
def fnRefResolvesToTheNamedSchemaRow : OpenClaim := { program := "qxb6614045a", sum := "4a9556a9944c7ec392bf16cd46878311fe852a05b16d1c922b6d6b9b29b4fe8a", func := "example.com/never-stale/never-stale/zzlaws_openapi_b1.FnRefResolvesToTheNamedSchema", spec := "fnRefResolvesToTheNamedSchema", apart := false }
def FnRefResolvesToTheNamedSchemaSaid : Prop := fnRefResolvesToTheNamedSchemaRow.holds Try.pinned (OpenSpec.ofChange fnRefResolvesToTheNamedSchemaSpec)

/-- ITS FALSE NEIGHBOUR: 'it returns false'. Refute it at one input. -/
def fnRefResolvesToTheNamedSchemaWrong : ChangeSpec := { name := "fnRefResolvesToTheNamedSchema", fn := fun _ => fun
  | [d1, d2] => { results := [.lit (.bool false)], args := [d1, d2] }
  | _ => none }
def FnRefResolvesToTheNamedSchemaWrongFalsely : Prop := fnRefResolvesToTheNamedSchemaRow.holds Try.pinned (OpenSpec.ofChange fnRefResolvesToTheNamedSchemaWrong)

end Rows
end Go.Proofs.Qxb6614045a
