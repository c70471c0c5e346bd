/-
  No cell of these rows narrows 'for every input' (looked for: loops, veiled, ifaces, maps, wideKeys, modest, calm, conditions, laid).
  DERIVED. THE GIVEN ROWS OF THIS SEAT. 2 by the template 'for every input the law returns true; each argument reads behind the call as it read before'; 0 by the template 'total and deterministic' (their statements: Qxb6618671aTotals.lean).
  GIVEN WITH THE SEED: the statements are not yours to turn. If you find one false, say at which input.
  Laid BY PROGRAM, IN A SANDBOX (cutbox-rows.mjs): the forced cells as the released guide's own fill.sh prints them over the translation a5b5b245b304c9dc… (all of the seat's roots in one cut). By AI agents, Wed Nov 11 2026. No macro, syntax, notation, axiom, sorry.
-/
import Derived.Test.Qxb6618671aChecked
import GoSem.Claim
import GoSem.ClaimJoined
import GoSem.ClaimMapViews
import Derived.JoinedTies
import Derived.KernelRfl
namespace Go.Proofs.Qxb6618671a
/- THE CELL 'sum', in the pinned program and in every row, IS THE sha256 OF THE DUMP (.gsa) THAT Qxb6618671aProg.lean LOADS. Nothing in Lean hashes anything: it is a label: what it is worth is what the hold of that sum in a sandbox is worth. -/
noncomputable def Try.pinned : Pinned := { name := "qxb6618671a", sum := "a5b5b245b304c9dc561c6fb6228e8c376ef3e7d79c8d68ee15ad57a6f7e2936a", checked := Try.checked }
namespace Rows
def none {H : Type} : Left H := { results := [], args := [] }

/-- 'zzlaws_root_b1.FnEndsDocumentFirstToken': WHATEVER THE INPUT: true; the input reads as it did. -/
def fnEndsDocumentFirstTokenSpec : ChangeSpec := { name := "fnEndsDocumentFirstToken", fn := fun _ => fun
  | [d1, d2, d3] => { results := [.lit (.bool true)], args := [d1, d2, d3] }
  | _ => none }
def fnEndsDocumentFirstTokenRow : OpenClaim := { program := "qxb6618671a", sum := "a5b5b245b304c9dc561c6fb6228e8c376ef3e7d79c8d68ee15ad57a6f7e2936a", func := "example.com/gantry/gantry/zzlaws_root_b1.FnEndsDocumentFirstToken", spec := "fnEndsDocumentFirstToken", apart := false }
def FnEndsDocumentFirstTokenSaid : Prop := fnEndsDocumentFirstTokenRow.holds Try.pinned (OpenSpec.ofChange fnEndsDocumentFirstTokenSpec)

/-- ITS FALSE NEIGHBOUR: 'it returns false'. Refute it at one input. -/
def fnEndsDocumentFirstTokenWrong : ChangeSpec := { name := "fnEndsDocumentFirstToken", fn := fun _ => fun
  | [d1, d2, d3] => { results := [.lit (.bool false)], args := [d1, d2, d3] }
  | _ => none }
def FnEndsDocumentFirstTokenWrongFalsely : Prop := fnEndsDocumentFirstTokenRow.holds Try.pinned (OpenSpec.ofChange fnEndsDocumentFirstTokenWrong)

/-- 'zzlaws_root_b1.FnEndsDocumentOneByteExtensions': WHATEVER THE INPUT: true; the input reads as it did. -/
def fnEndsDocumentOneByteExtensionsSpec : ChangeSpec := { name := "fnEndsDocumentOneByteExtensions", fn := fun _ => fun
  | [d] => { results := [.lit (.bool true)], args := [d] }
  | _ => none }
def fnEndsDocumentOneByteExtensionsRow : OpenClaim := { program := "qxb6618671a", sum := "a5b5b245b304c9dc561c6fb6228e8c376ef3e7d79c8d68ee15ad57a6f7e2936a", func := "example.com/gantry/gantry/zzlaws_root_b1.FnEndsDocumentOneByteExtensions", spec := "fnEndsDocumentOneByteExtensions", apart := false }
def FnEndsDocumentOneByteExtensionsSaid : Prop := fnEndsDocumentOneByteExtensionsRow.holds Try.pinned (OpenSpec.ofChange fnEndsDocumentOneByteExtensionsSpec)

/-- ITS FALSE NEIGHBOUR: 'it returns false'. Refute it at one input. -/
def fnEndsDocumentOneByteExtensionsWrong : ChangeSpec := { name := "fnEndsDocumentOneByteExtensions", fn := fun _ => fun
  | [d] => { results := [.lit (.bool false)], args := [d] }
  | _ => none }
def FnEndsDocumentOneByteExtensionsWrongFalsely : Prop := fnEndsDocumentOneByteExtensionsRow.holds Try.pinned (OpenSpec.ofChange fnEndsDocumentOneByteExtensionsWrong)

end Rows
end Go.Proofs.Qxb6618671a
