/-
  No cell of these rows narrows 'for every input' (looked for: loops, veiled, ifaces, maps, wideKeys, modest, calm, conditions, laid).
  DERIVED. THE GIVEN ROWS OF THIS SEAT. 4 by the template 'for every input the law returns true; each argument reads behind the call as it read before'; 0 by the template 'total and deterministic' (their statements: Qxb6605419aTotals.lean).
  GIVEN WITH THE SEED: the statements are not yours to turn. If you find one false, say at which input.
  Laid BY PROGRAM, IN A SANDBOX (cutbox-rows.mjs): the forced cells as the released guide's own fill.sh prints them over the translation 9b16e291324dfe11… (all of the seat's roots in one cut). By AI agents, Wed Nov 11 2026. No macro, syntax, notation, axiom, sorry.
-/
import Derived.Test.Qxb6605419aChecked
import GoSem.Claim
import GoSem.ClaimJoined
import GoSem.ClaimMapViews
import Derived.JoinedTies
import Derived.KernelRfl
namespace Go.Proofs.Qxb6605419a
/- THE CELL 'sum', in the pinned program and in every row, IS THE sha256 OF THE DUMP (.gsa) THAT Qxb6605419aProg.lean LOADS. Nothing in Lean hashes anything: it is a label: what it is worth is what the hold of that sum in a sandbox is worth. -/
noncomputable def Try.pinned : Pinned := { name := "qxb6605419a", sum := "9b16e291324dfe111524b52897cc52a0bade1b38c6396252e78daa45ae14dabe", checked := Try.checked }
namespace Rows
def none {H : Type} : Left H := { results := [], args := [] }

/-- 'zzlaws_svcb_b1.FnJoinListDecodesExactly': WHATEVER THE INPUT: true; the input reads as it did. -/
def fnJoinListDecodesExactlySpec : ChangeSpec := { name := "fnJoinListDecodesExactly", fn := fun _ => fun
  | [d] => { results := [.lit (.bool true)], args := [d] }
  | _ => none }
def fnJoinListDecodesExactlyRow : OpenClaim := { program := "qxb6605419a", sum := "9b16e291324dfe111524b52897cc52a0bade1b38c6396252e78daa45ae14dabe", func := "example.com/waymark/waymark/zzlaws_svcb_b1.FnJoinListDecodesExactly", spec := "fnJoinListDecodesExactly", inPlace := ["internal/abi.NoEscape"], apart := false }
def FnJoinListDecodesExactlySaid : Prop := fnJoinListDecodesExactlyRow.holds Try.pinned (OpenSpec.ofChange fnJoinListDecodesExactlySpec)

/-- ITS FALSE NEIGHBOUR: 'it returns false'. Refute it at one input. -/
def fnJoinListDecodesExactlyWrong : ChangeSpec := { name := "fnJoinListDecodesExactly", fn := fun _ => fun
  | [d] => { results := [.lit (.bool false)], args := [d] }
  | _ => none }
def FnJoinListDecodesExactlyWrongFalsely : Prop := fnJoinListDecodesExactlyRow.holds Try.pinned (OpenSpec.ofChange fnJoinListDecodesExactlyWrong)

/-- 'zzlaws_svcb_b1.FnJoinListConcatenates': WHATEVER THE INPUT: true; the input reads as it did. -/
def fnJoinListConcatenatesSpec : ChangeSpec := { name := "fnJoinListConcatenates", fn := fun _ => fun
  | [d1, d2] => { results := [.lit (.bool true)], args := [d1, d2] }
  | _ => none }
def fnJoinListConcatenatesRow : OpenClaim := { program := "qxb6605419a", sum := "9b16e291324dfe111524b52897cc52a0bade1b38c6396252e78daa45ae14dabe", func := "example.com/waymark/waymark/zzlaws_svcb_b1.FnJoinListConcatenates", spec := "fnJoinListConcatenates", inPlace := ["internal/abi.NoEscape"], apart := false }
def FnJoinListConcatenatesSaid : Prop := fnJoinListConcatenatesRow.holds Try.pinned (OpenSpec.ofChange fnJoinListConcatenatesSpec)

/-- ITS FALSE NEIGHBOUR: 'it returns false'. Refute it at one input. -/
def fnJoinListConcatenatesWrong : ChangeSpec := { name := "fnJoinListConcatenates", fn := fun _ => fun
  | [d1, d2] => { results := [.lit (.bool false)], args := [d1, d2] }
  | _ => none }
def FnJoinListConcatenatesWrongFalsely : Prop := fnJoinListConcatenatesRow.holds Try.pinned (OpenSpec.ofChange fnJoinListConcatenatesWrong)

/-- 'zzlaws_svcb_b1.FnAlpnIDsReencodesToValue': WHATEVER THE INPUT: true; the input reads as it did. -/
def fnAlpnIDsReencodesToValueSpec : ChangeSpec := { name := "fnAlpnIDsReencodesToValue", fn := fun _ => fun
  | [d] => { results := [.lit (.bool true)], args := [d] }
  | _ => none }
def fnAlpnIDsReencodesToValueRow : OpenClaim := { program := "qxb6605419a", sum := "9b16e291324dfe111524b52897cc52a0bade1b38c6396252e78daa45ae14dabe", func := "example.com/waymark/waymark/zzlaws_svcb_b1.FnAlpnIDsReencodesToValue", spec := "fnAlpnIDsReencodesToValue", apart := false }
def FnAlpnIDsReencodesToValueSaid : Prop := fnAlpnIDsReencodesToValueRow.holds Try.pinned (OpenSpec.ofChange fnAlpnIDsReencodesToValueSpec)

/-- ITS FALSE NEIGHBOUR: 'it returns false'. Refute it at one input. -/
def fnAlpnIDsReencodesToValueWrong : ChangeSpec := { name := "fnAlpnIDsReencodesToValue", fn := fun _ => fun
  | [d] => { results := [.lit (.bool false)], args := [d] }
  | _ => none }
def FnAlpnIDsReencodesToValueWrongFalsely : Prop := fnAlpnIDsReencodesToValueRow.holds Try.pinned (OpenSpec.ofChange fnAlpnIDsReencodesToValueWrong)

/-- 'zzlaws_svcb_b1.FnAlpnIDsSplitsAtBoundaries': WHATEVER THE INPUT: true; the input reads as it did. -/
def fnAlpnIDsSplitsAtBoundariesSpec : ChangeSpec := { name := "fnAlpnIDsSplitsAtBoundaries", fn := fun _ => fun
  | [d1, d2] => { results := [.lit (.bool true)], args := [d1, d2] }
  | _ => none }
def fnAlpnIDsSplitsAtBoundariesRow : OpenClaim := { program := "qxb6605419a", sum := "9b16e291324dfe111524b52897cc52a0bade1b38c6396252e78daa45ae14dabe", func := "example.com/waymark/waymark/zzlaws_svcb_b1.FnAlpnIDsSplitsAtBoundaries", spec := "fnAlpnIDsSplitsAtBoundaries", apart := false }
def FnAlpnIDsSplitsAtBoundariesSaid : Prop := fnAlpnIDsSplitsAtBoundariesRow.holds Try.pinned (OpenSpec.ofChange fnAlpnIDsSplitsAtBoundariesSpec)

/-- ITS FALSE NEIGHBOUR: 'it returns false'. Refute it at one input. -/
def fnAlpnIDsSplitsAtBoundariesWrong : ChangeSpec := { name := "fnAlpnIDsSplitsAtBoundaries", fn := fun _ => fun
  | [d1, d2] => { results := [.lit (.bool false)], args := [d1, d2] }
  | _ => none }
def FnAlpnIDsSplitsAtBoundariesWrongFalsely : Prop := fnAlpnIDsSplitsAtBoundariesRow.holds Try.pinned (OpenSpec.ofChange fnAlpnIDsSplitsAtBoundariesWrong)

end Rows
end Go.Proofs.Qxb6605419a
