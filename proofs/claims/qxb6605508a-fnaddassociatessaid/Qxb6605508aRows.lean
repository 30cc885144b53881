/-
  No cell of these rows narrows 'for every input' (looked for: loops, veiled, ifaces, maps, wideKeys, modest, calm, conditions, laid).
  DERIVED. THE GIVEN ROWS OF THIS SEAT. 4 by the template 'for every input the law returns true; each argument reads behind the call as it read before'; 0 by the template 'total and deterministic' (their statements: Qxb6605508aTotals.lean).
  GIVEN WITH THE SEED: the statements are not yours to turn. If you find one false, say at which input.
  Laid BY PROGRAM, IN A SANDBOX (cutbox-rows.mjs): the forced cells as the released guide's own fill.sh prints them over the translation 854e973a6fc6df62… (all of the seat's roots in one cut). By AI agents, Wed Nov 11 2026. No macro, syntax, notation, axiom, sorry.
-/
import Derived.Test.Qxb6605508aChecked
import GoSem.Claim
import GoSem.ClaimJoined
import GoSem.ClaimMapViews
import Derived.JoinedTies
import Derived.KernelRfl
namespace Go.Proofs.Qxb6605508a
/- THE CELL 'sum', in the pinned program and in every row, IS THE sha256 OF THE DUMP (.gsa) THAT Qxb6605508aProg.lean LOADS. Nothing in Lean hashes anything: it is a label: what it is worth is what the hold of that sum in a sandbox is worth. -/
noncomputable def Try.pinned : Pinned := { name := "qxb6605508a", sum := "854e973a6fc6df62f71f7591764e0f42991199dec5cb3d90483ddc34ac6b1ba1", checked := Try.checked }
namespace Rows
def none {H : Type} : Left H := { results := [], args := [] }

/-- 'zzlaws_sim_b1.FnAddLookupOrderFree': WHATEVER THE INPUT: true; the input reads as it did. -/
def fnAddLookupOrderFreeSpec : ChangeSpec := { name := "fnAddLookupOrderFree", fn := fun _ => fun
  | [d1, d2, d3, d4, d5] => { results := [.lit (.bool true)], args := [d1, d2, d3, d4, d5] }
  | _ => none }
def fnAddLookupOrderFreeRow : OpenClaim := { program := "qxb6605508a", sum := "854e973a6fc6df62f71f7591764e0f42991199dec5cb3d90483ddc34ac6b1ba1", func := "example.com/ringhop/ringhop/zzlaws_sim_b1.FnAddLookupOrderFree", spec := "fnAddLookupOrderFree", apart := false }
def FnAddLookupOrderFreeSaid : Prop := fnAddLookupOrderFreeRow.holds Try.pinned (OpenSpec.ofChange fnAddLookupOrderFreeSpec)

/-- ITS FALSE NEIGHBOUR: 'it returns false'. Refute it at one input. -/
def fnAddLookupOrderFreeWrong : ChangeSpec := { name := "fnAddLookupOrderFree", fn := fun _ => fun
  | [d1, d2, d3, d4, d5] => { results := [.lit (.bool false)], args := [d1, d2, d3, d4, d5] }
  | _ => none }
def FnAddLookupOrderFreeWrongFalsely : Prop := fnAddLookupOrderFreeRow.holds Try.pinned (OpenSpec.ofChange fnAddLookupOrderFreeWrong)

/-- 'zzlaws_sim_b1.FnAddMergesOneLookup': WHATEVER THE INPUT: true; the input reads as it did. -/
def fnAddMergesOneLookupSpec : ChangeSpec := { name := "fnAddMergesOneLookup", fn := fun _ => fun
  | [d1, d2, d3] => { results := [.lit (.bool true)], args := [d1, d2, d3] }
  | _ => none }
def fnAddMergesOneLookupRow : OpenClaim := { program := "qxb6605508a", sum := "854e973a6fc6df62f71f7591764e0f42991199dec5cb3d90483ddc34ac6b1ba1", func := "example.com/ringhop/ringhop/zzlaws_sim_b1.FnAddMergesOneLookup", spec := "fnAddMergesOneLookup", apart := false }
def FnAddMergesOneLookupSaid : Prop := fnAddMergesOneLookupRow.holds Try.pinned (OpenSpec.ofChange fnAddMergesOneLookupSpec)

/-- ITS FALSE NEIGHBOUR: 'it returns false'. Refute it at one input. -/
def fnAddMergesOneLookupWrong : ChangeSpec := { name := "fnAddMergesOneLookup", fn := fun _ => fun
  | [d1, d2, d3] => { results := [.lit (.bool false)], args := [d1, d2, d3] }
  | _ => none }
def FnAddMergesOneLookupWrongFalsely : Prop := fnAddMergesOneLookupRow.holds Try.pinned (OpenSpec.ofChange fnAddMergesOneLookupWrong)

/-- 'zzlaws_sim_b1.FnAddCommutesExact': WHATEVER THE INPUT: true; the input reads as it did. -/
def fnAddCommutesExactSpec : ChangeSpec := { name := "fnAddCommutesExact", fn := fun _ => fun
  | [d1, d2] => { results := [.lit (.bool true)], args := [d1, d2] }
  | _ => none }
def fnAddCommutesExactRow : OpenClaim := { program := "qxb6605508a", sum := "854e973a6fc6df62f71f7591764e0f42991199dec5cb3d90483ddc34ac6b1ba1", func := "example.com/ringhop/ringhop/zzlaws_sim_b1.FnAddCommutesExact", spec := "fnAddCommutesExact", apart := false }
def FnAddCommutesExactSaid : Prop := fnAddCommutesExactRow.holds Try.pinned (OpenSpec.ofChange fnAddCommutesExactSpec)

/-- ITS FALSE NEIGHBOUR: 'it returns false'. Refute it at one input. -/
def fnAddCommutesExactWrong : ChangeSpec := { name := "fnAddCommutesExact", fn := fun _ => fun
  | [d1, d2] => { results := [.lit (.bool false)], args := [d1, d2] }
  | _ => none }
def FnAddCommutesExactWrongFalsely : Prop := fnAddCommutesExactRow.holds Try.pinned (OpenSpec.ofChange fnAddCommutesExactWrong)

/-- 'zzlaws_sim_b1.FnAddAssociates': WHATEVER THE INPUT: true; the input reads as it did. -/
def fnAddAssociatesSpec : ChangeSpec := { name := "fnAddAssociates", fn := fun _ => fun
  | [d1, d2, d3] => { results := [.lit (.bool true)], args := [d1, d2, d3] }
  | _ => none }
def fnAddAssociatesRow : OpenClaim := { program := "qxb6605508a", sum := "854e973a6fc6df62f71f7591764e0f42991199dec5cb3d90483ddc34ac6b1ba1", func := "example.com/ringhop/ringhop/zzlaws_sim_b1.FnAddAssociates", spec := "fnAddAssociates", apart := false }
def FnAddAssociatesSaid : Prop := fnAddAssociatesRow.holds Try.pinned (OpenSpec.ofChange fnAddAssociatesSpec)

/-- ITS FALSE NEIGHBOUR: 'it returns false'. Refute it at one input. -/
def fnAddAssociatesWrong : ChangeSpec := { name := "fnAddAssociates", fn := fun _ => fun
  | [d1, d2, d3] => { results := [.lit (.bool false)], args := [d1, d2, d3] }
  | _ => none }
def FnAddAssociatesWrongFalsely : Prop := fnAddAssociatesRow.holds Try.pinned (OpenSpec.ofChange fnAddAssociatesWrong)

end Rows
end Go.Proofs.Qxb6605508a
