/-
  No cell of these rows narrows 'for every input' (looked for: loops, veiled, ifaces, maps, wideKeys, modest, calm, conditions, laid).
  DERIVED. THE GIVEN ROWS OF THIS SEAT. 5 by the template 'for every input the law returns true; each argument reads behind the call as it read before'; 0 by the template 'total and deterministic' (their statements: Qxb6618103aTotals.lean).
  GIVEN WITH THE SEED: the statements are not yours to turn. If you find one false, say at which input.
  Laid BY PROGRAM, IN A SANDBOX (cutbox-rows.mjs): the forced cells as the released guide's own fill.sh prints them over the translation c170090a8ee522c6… (all of the seat's roots in one cut). By AI agents, Wed Nov 11 2026. No macro, syntax, notation, axiom, sorry.
-/
import Derived.Test.Qxb6618103aChecked
import GoSem.Claim
import GoSem.ClaimJoined
import GoSem.ClaimMapViews
import Derived.JoinedTies
import Derived.KernelRfl
namespace Go.Proofs.Qxb6618103a
/- THE CELL 'sum', in the pinned program and in every row, IS THE sha256 OF THE DUMP (.gsa) THAT Qxb6618103aProg.lean LOADS. Nothing in Lean hashes anything: it is a label: what it is worth is what the hold of that sum in a sandbox is worth. -/
noncomputable def Try.pinned : Pinned := { name := "qxb6618103a", sum := "c170090a8ee522c64f5d848a325b498ed9c7d3270d1101abc29b218da71338de", checked := Try.checked }
namespace Rows
def none {H : Type} : Left H := { results := [], args := [] }

/-- 'zzlaws_internal_toon_b1.FnLooksNumericMatchesAutomaton': WHATEVER THE INPUT: true; the input reads as it did. -/
def fnLooksNumericMatchesAutomatonSpec : ChangeSpec := { name := "fnLooksNumericMatchesAutomaton", fn := fun _ => fun
  | [d] => { results := [.lit (.bool true)], args := [d] }
  | _ => none }
def fnLooksNumericMatchesAutomatonRow : OpenClaim := { program := "qxb6618103a", sum := "c170090a8ee522c64f5d848a325b498ed9c7d3270d1101abc29b218da71338de", func := "example.com/mold-payloads/mold-payloads/zzlaws_internal_toon_b1.FnLooksNumericMatchesAutomaton", spec := "fnLooksNumericMatchesAutomaton", unfollowed := true, recurses := true, apart := false }
def FnLooksNumericMatchesAutomatonSaid : Prop := fnLooksNumericMatchesAutomatonRow.holds Try.pinned (OpenSpec.ofChange fnLooksNumericMatchesAutomatonSpec)

/-- ITS FALSE NEIGHBOUR: 'it returns false'. Refute it at one input. -/
def fnLooksNumericMatchesAutomatonWrong : ChangeSpec := { name := "fnLooksNumericMatchesAutomaton", fn := fun _ => fun
  | [d] => { results := [.lit (.bool false)], args := [d] }
  | _ => none }
def FnLooksNumericMatchesAutomatonWrongFalsely : Prop := fnLooksNumericMatchesAutomatonRow.holds Try.pinned (OpenSpec.ofChange fnLooksNumericMatchesAutomatonWrong)

/-- 'zzlaws_internal_toon_b1.FnLooksNumericExponentJoin': WHATEVER THE INPUT: true; the input reads as it did. -/
def fnLooksNumericExponentJoinSpec : ChangeSpec := { name := "fnLooksNumericExponentJoin", fn := fun _ => fun
  | [d1, d2] => { results := [.lit (.bool true)], args := [d1, d2] }
  | _ => none }
def fnLooksNumericExponentJoinRow : OpenClaim := { program := "qxb6618103a", sum := "c170090a8ee522c64f5d848a325b498ed9c7d3270d1101abc29b218da71338de", func := "example.com/mold-payloads/mold-payloads/zzlaws_internal_toon_b1.FnLooksNumericExponentJoin", spec := "fnLooksNumericExponentJoin", unfollowed := true, recurses := true, apart := false }
def FnLooksNumericExponentJoinSaid : Prop := fnLooksNumericExponentJoinRow.holds Try.pinned (OpenSpec.ofChange fnLooksNumericExponentJoinSpec)

/-- ITS FALSE NEIGHBOUR: 'it returns false'. Refute it at one input. -/
def fnLooksNumericExponentJoinWrong : ChangeSpec := { name := "fnLooksNumericExponentJoin", fn := fun _ => fun
  | [d1, d2] => { results := [.lit (.bool false)], args := [d1, d2] }
  | _ => none }
def FnLooksNumericExponentJoinWrongFalsely : Prop := fnLooksNumericExponentJoinRow.holds Try.pinned (OpenSpec.ofChange fnLooksNumericExponentJoinWrong)

/-- 'zzlaws_internal_toon_b1.FnIsIdentifierAtAnyCut': WHATEVER THE INPUT: true; the input reads as it did. -/
def fnIsIdentifierAtAnyCutSpec : ChangeSpec := { name := "fnIsIdentifierAtAnyCut", fn := fun _ => fun
  | [d1, d2] => { results := [.lit (.bool true)], args := [d1, d2] }
  | _ => none }
def fnIsIdentifierAtAnyCutRow : OpenClaim := { program := "qxb6618103a", sum := "c170090a8ee522c64f5d848a325b498ed9c7d3270d1101abc29b218da71338de", func := "example.com/mold-payloads/mold-payloads/zzlaws_internal_toon_b1.FnIsIdentifierAtAnyCut", spec := "fnIsIdentifierAtAnyCut", apart := false }
def FnIsIdentifierAtAnyCutSaid : Prop := fnIsIdentifierAtAnyCutRow.holds Try.pinned (OpenSpec.ofChange fnIsIdentifierAtAnyCutSpec)

/-- ITS FALSE NEIGHBOUR: 'it returns false'. Refute it at one input. -/
def fnIsIdentifierAtAnyCutWrong : ChangeSpec := { name := "fnIsIdentifierAtAnyCut", fn := fun _ => fun
  | [d1, d2] => { results := [.lit (.bool false)], args := [d1, d2] }
  | _ => none }
def FnIsIdentifierAtAnyCutWrongFalsely : Prop := fnIsIdentifierAtAnyCutRow.holds Try.pinned (OpenSpec.ofChange fnIsIdentifierAtAnyCutWrong)

/-- 'zzlaws_internal_toon_b1.FnQuotedEndShiftsWithPrefix': WHATEVER THE INPUT: true; the input reads as it did. -/
def fnQuotedEndShiftsWithPrefixSpec : ChangeSpec := { name := "fnQuotedEndShiftsWithPrefix", fn := fun _ => fun
  | [d1, d2, d3] => { results := [.lit (.bool true)], args := [d1, d2, d3] }
  | _ => none }
def fnQuotedEndShiftsWithPrefixRow : OpenClaim := { program := "qxb6618103a", sum := "c170090a8ee522c64f5d848a325b498ed9c7d3270d1101abc29b218da71338de", func := "example.com/mold-payloads/mold-payloads/zzlaws_internal_toon_b1.FnQuotedEndShiftsWithPrefix", spec := "fnQuotedEndShiftsWithPrefix", apart := false }
def FnQuotedEndShiftsWithPrefixSaid : Prop := fnQuotedEndShiftsWithPrefixRow.holds Try.pinned (OpenSpec.ofChange fnQuotedEndShiftsWithPrefixSpec)

/-- ITS FALSE NEIGHBOUR: 'it returns false'. Refute it at one input. -/
def fnQuotedEndShiftsWithPrefixWrong : ChangeSpec := { name := "fnQuotedEndShiftsWithPrefix", fn := fun _ => fun
  | [d1, d2, d3] => { results := [.lit (.bool false)], args := [d1, d2, d3] }
  | _ => none }
def FnQuotedEndShiftsWithPrefixWrongFalsely : Prop := fnQuotedEndShiftsWithPrefixRow.holds Try.pinned (OpenSpec.ofChange fnQuotedEndShiftsWithPrefixWrong)

/-- 'zzlaws_internal_toon_b1.FnQuotedEndIgnoresWhatFollows': WHATEVER THE INPUT: true; the input reads as it did. -/
def fnQuotedEndIgnoresWhatFollowsSpec : ChangeSpec := { name := "fnQuotedEndIgnoresWhatFollows", fn := fun _ => fun
  | [d1, d2, d3] => { results := [.lit (.bool true)], args := [d1, d2, d3] }
  | _ => none }
def fnQuotedEndIgnoresWhatFollowsRow : OpenClaim := { program := "qxb6618103a", sum := "c170090a8ee522c64f5d848a325b498ed9c7d3270d1101abc29b218da71338de", func := "example.com/mold-payloads/mold-payloads/zzlaws_internal_toon_b1.FnQuotedEndIgnoresWhatFollows", spec := "fnQuotedEndIgnoresWhatFollows", apart := false }
def FnQuotedEndIgnoresWhatFollowsSaid : Prop := fnQuotedEndIgnoresWhatFollowsRow.holds Try.pinned (OpenSpec.ofChange fnQuotedEndIgnoresWhatFollowsSpec)

/-- ITS FALSE NEIGHBOUR: 'it returns false'. Refute it at one input. -/
def fnQuotedEndIgnoresWhatFollowsWrong : ChangeSpec := { name := "fnQuotedEndIgnoresWhatFollows", fn := fun _ => fun
  | [d1, d2, d3] => { results := [.lit (.bool false)], args := [d1, d2, d3] }
  | _ => none }
def FnQuotedEndIgnoresWhatFollowsWrongFalsely : Prop := fnQuotedEndIgnoresWhatFollowsRow.holds Try.pinned (OpenSpec.ofChange fnQuotedEndIgnoresWhatFollowsWrong)

end Rows
end Go.Proofs.Qxb6618103a
