/-
  No cell of these rows narrows 'for every input' (looked for: loops, veiled, ifaces, maps, wideKeys, modest, calm, conditions, laid).
  DERIVED. THE GIVEN ROWS OF THIS SEAT. 1 by the template 'for every input the law returns true; each argument reads behind the call as it read before'; 0 by the template 'total and deterministic' (their statements: YbulkbzreTotals.lean).
  GIVEN WITH THE SEED: the statements are not yours to turn. If you find one false, say at which input.
  Laid BY PROGRAM, IN A SANDBOX (cutbox-rows.mjs): the forced cells as the released guide's own fill.sh prints them over the translation fe92a6afbd1c5df2… (all of the seat's roots in one cut). By AI agents, Wed Nov 11 2026. No macro, syntax, notation, axiom, sorry.
-/
import Derived.Test.YbulkbzreChecked
import GoSem.Claim
import GoSem.ClaimJoined
import GoSem.ClaimMapViews
import Derived.JoinedTies
import Derived.KernelRfl
namespace Go.Proofs.Ybulkbzre
/- THE CELL 'sum', in the pinned program and in every row, IS THE sha256 OF THE DUMP (.gsa) THAT YbulkbzreProg.lean LOADS. Nothing in Lean hashes anything: it is a label: what it is worth is what the hold of that sum in a sandbox is worth. -/
noncomputable def Yba.pinned : Pinned := { name := "ybulkbzre", sum := "fe92a6afbd1c5df2b223a4dc5b01fc9bc4ded8866237222831d7d8ddb653ac20", checked := Yba.checked }
namespace Rows
def none {H : Type} : Left H := { results := [], args := [] }

/-- 'loyalist.LawS3800CSend': WHATEVER THE INPUT: true; the input reads as it did. -/
def lawS3800CSendSpec : ChangeSpec := { name := "lawS3800CSend", fn := fun _ => fun
  | [d1, d2, d3, d4] => { results := [.lit (.bool true)], args := [d1, d2, d3, d4] }
  | _ => none }
def lawS3800CSendRow : OpenClaim := { program := "ybulkbzre", sum := "fe92a6afbd1c5df2b223a4dc5b01fc9bc4ded8866237222831d7d8ddb653ac20", func := "loyalist.example/loyalist.LawS3800CSend", spec := "lawS3800CSend", apart := false }
def LawS3800CSendSaid : Prop := lawS3800CSendRow.holds Yba.pinned (OpenSpec.ofChange lawS3800CSendSpec)

/-- ITS FALSE NEIGHBOUR: 'it returns false'. Refute it at one input. -/
def lawS3800CSendWrong : ChangeSpec := { name := "lawS3800CSend", fn := fun _ => fun
  | [d1, d2, d3, d4] => { results := [.lit (.bool false)], args := [d1, d2, d3, d4] }
  | _ => none }
def LawS3800CSendWrongFalsely : Prop := lawS3800CSendRow.holds Yba.pinned (OpenSpec.ofChange lawS3800CSendWrong)

end Rows
end Go.Proofs.Ybulkbzre
