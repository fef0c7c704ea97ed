/-
  No cell of these rows narrows 'for every input' (looked for: loops, veiled, ifaces, maps, wideKeys, modest, calm, conditions, laid).
  DERIVED. THE GIVEN ROWS OF THIS SEAT. 3 by the template 'for every input the law returns true; each argument reads behind the call as it read before'; 0 by the template 'total and deterministic' (their statements: YbulkbzpaTotals.lean).
  GIVEN WITH THE SEED: the statements are not yours to turn. If you find one false, say at which input.
  Laid BY PROGRAM, IN A SANDBOX (cutbox-rows.mjs): the forced cells as the released guide's own fill.sh prints them over the translation c15b75e2a8c5afe2… (all of the seat's roots in one cut). By AI agents, Wed Nov 11 2026. No macro, syntax, notation, axiom, sorry.
-/
import Derived.Test.YbulkbzpaChecked
import GoSem.Claim
import GoSem.ClaimJoined
import GoSem.ClaimMapViews
import Derived.JoinedTies
import Derived.KernelRfl
namespace Go.Proofs.Ybulkbzpa
/- THE CELL 'sum', in the pinned program and in every row, IS THE sha256 OF THE DUMP (.gsa) THAT YbulkbzpaProg.lean LOADS. Nothing in Lean hashes anything: it is a label: what it is worth is what the hold of that sum in a sandbox is worth. -/
noncomputable def Yba.pinned : Pinned := { name := "ybulkbzpa", sum := "c15b75e2a8c5afe235a00cd78b4ff5bc8330b7a56589ba929c64241b7ce4794c", checked := Yba.checked }
namespace Rows
def none {H : Type} : Left H := { results := [], args := [] }

/-- 'sluice.LawS3796AIntStep': WHATEVER THE INPUT: true; the input reads as it did. -/
def lawS3796AIntStepSpec : ChangeSpec := { name := "lawS3796AIntStep", fn := fun _ => fun
  | [d1, d2, d3] => { results := [.lit (.bool true)], args := [d1, d2, d3] }
  | _ => none }
def lawS3796AIntStepRow : OpenClaim := { program := "ybulkbzpa", sum := "c15b75e2a8c5afe235a00cd78b4ff5bc8330b7a56589ba929c64241b7ce4794c", func := "example.com/sluice/sluice.LawS3796AIntStep", spec := "lawS3796AIntStep", inPlace := ["internal/reflectlite.TypeOf"], unfollowed := true, recurses := true, apart := false }
def LawS3796AIntStepSaid : Prop := lawS3796AIntStepRow.holds Yba.pinned (OpenSpec.ofChange lawS3796AIntStepSpec)

/-- ITS FALSE NEIGHBOUR: 'it returns false'. Refute it at one input. -/
def lawS3796AIntStepWrong : ChangeSpec := { name := "lawS3796AIntStep", fn := fun _ => fun
  | [d1, d2, d3] => { results := [.lit (.bool false)], args := [d1, d2, d3] }
  | _ => none }
def LawS3796AIntStepWrongFalsely : Prop := lawS3796AIntStepRow.holds Yba.pinned (OpenSpec.ofChange lawS3796AIntStepWrong)

/-- 'sluice.LawS3796AStringStep': WHATEVER THE INPUT: true; the input reads as it did. -/
def lawS3796AStringStepSpec : ChangeSpec := { name := "lawS3796AStringStep", fn := fun _ => fun
  | [d1, d2, d3] => { results := [.lit (.bool true)], args := [d1, d2, d3] }
  | _ => none }
def lawS3796AStringStepRow : OpenClaim := { program := "ybulkbzpa", sum := "c15b75e2a8c5afe235a00cd78b4ff5bc8330b7a56589ba929c64241b7ce4794c", func := "example.com/sluice/sluice.LawS3796AStringStep", spec := "lawS3796AStringStep", inPlace := ["internal/reflectlite.TypeOf"], unfollowed := true, recurses := true, apart := false }
def LawS3796AStringStepSaid : Prop := lawS3796AStringStepRow.holds Yba.pinned (OpenSpec.ofChange lawS3796AStringStepSpec)

/-- ITS FALSE NEIGHBOUR: 'it returns false'. Refute it at one input. -/
def lawS3796AStringStepWrong : ChangeSpec := { name := "lawS3796AStringStep", fn := fun _ => fun
  | [d1, d2, d3] => { results := [.lit (.bool false)], args := [d1, d2, d3] }
  | _ => none }
def LawS3796AStringStepWrongFalsely : Prop := lawS3796AStringStepRow.holds Yba.pinned (OpenSpec.ofChange lawS3796AStringStepWrong)

/-- 'sluice.LawS3796CProtocol': WHATEVER THE INPUT: true; the input reads as it did. -/
def lawS3796CProtocolSpec : ChangeSpec := { name := "lawS3796CProtocol", fn := fun _ => fun
  | [d1, d2, d3] => { results := [.lit (.bool true)], args := [d1, d2, d3] }
  | _ => none }
def lawS3796CProtocolRow : OpenClaim := { program := "ybulkbzpa", sum := "c15b75e2a8c5afe235a00cd78b4ff5bc8330b7a56589ba929c64241b7ce4794c", func := "example.com/sluice/sluice.LawS3796CProtocol", spec := "lawS3796CProtocol", unfollowed := true, recurses := true, apart := false }
def LawS3796CProtocolSaid : Prop := lawS3796CProtocolRow.holds Yba.pinned (OpenSpec.ofChange lawS3796CProtocolSpec)

/-- ITS FALSE NEIGHBOUR: 'it returns false'. Refute it at one input. -/
def lawS3796CProtocolWrong : ChangeSpec := { name := "lawS3796CProtocol", fn := fun _ => fun
  | [d1, d2, d3] => { results := [.lit (.bool false)], args := [d1, d2, d3] }
  | _ => none }
def LawS3796CProtocolWrongFalsely : Prop := lawS3796CProtocolRow.holds Yba.pinned (OpenSpec.ofChange lawS3796CProtocolWrong)

end Rows
end Go.Proofs.Ybulkbzpa
