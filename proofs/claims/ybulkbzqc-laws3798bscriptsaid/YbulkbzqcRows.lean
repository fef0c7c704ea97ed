/-
  No cell of these rows narrows 'for every input' (looked for: loops, veiled, ifaces, maps, wideKeys, modest, calm, conditions, laid).
  DERIVED. THE GIVEN ROWS OF THIS SEAT. 3 by the template 'for every input the law returns true; each argument reads behind the call as it read before'; 0 by the template 'total and deterministic' (their statements: YbulkbzqcTotals.lean).
  GIVEN WITH THE SEED: the statements are not yours to turn. If you find one false, say at which input.
  Laid BY PROGRAM, IN A SANDBOX (cutbox-rows.mjs): the forced cells as the released guide's own fill.sh prints them over the translation bd7d58cee14331fb… (all of the seat's roots in one cut). By AI agents, Wed Nov 11 2026. No macro, syntax, notation, axiom, sorry.
-/
import Derived.Test.YbulkbzqcChecked
import GoSem.Claim
import GoSem.ClaimJoined
import GoSem.ClaimMapViews
import Derived.JoinedTies
import Derived.KernelRfl
namespace Go.Proofs.Ybulkbzqc
/- THE CELL 'sum', in the pinned program and in every row, IS THE sha256 OF THE DUMP (.gsa) THAT YbulkbzqcProg.lean LOADS. Nothing in Lean hashes anything: it is a label: what it is worth is what the hold of that sum in a sandbox is worth. -/
noncomputable def Yba.pinned : Pinned := { name := "ybulkbzqc", sum := "bd7d58cee14331fb5e210a3c812a2802f7638271c051caa8474bd287a5f52506", checked := Yba.checked }
namespace Rows
def none {H : Type} : Left H := { results := [], args := [] }

/-- 'umbel.LawS3798BScript': WHATEVER THE INPUT: true; the input reads as it did. -/
def lawS3798BScriptSpec : ChangeSpec := { name := "lawS3798BScript", fn := fun _ => fun
  | [d1, d2] => { results := [.lit (.bool true)], args := [d1, d2] }
  | _ => none }
def lawS3798BScriptRow : OpenClaim := { program := "ybulkbzqc", sum := "bd7d58cee14331fb5e210a3c812a2802f7638271c051caa8474bd287a5f52506", func := "example.com/umbel/umbel.LawS3798BScript", spec := "lawS3798BScript", apart := false }
def LawS3798BScriptSaid : Prop := lawS3798BScriptRow.holds Yba.pinned (OpenSpec.ofChange lawS3798BScriptSpec)

/-- ITS FALSE NEIGHBOUR: 'it returns false'. Refute it at one input. -/
def lawS3798BScriptWrong : ChangeSpec := { name := "lawS3798BScript", fn := fun _ => fun
  | [d1, d2] => { results := [.lit (.bool false)], args := [d1, d2] }
  | _ => none }
def LawS3798BScriptWrongFalsely : Prop := lawS3798BScriptRow.holds Yba.pinned (OpenSpec.ofChange lawS3798BScriptWrong)

/-- 'umbel.LawS3798BOnce': WHATEVER THE INPUT: true; the input reads as it did. -/
def lawS3798BOnceSpec : ChangeSpec := { name := "lawS3798BOnce", fn := fun _ => fun
  | [d1, d2, d3, d4, d5, d6] => { results := [.lit (.bool true)], args := [d1, d2, d3, d4, d5, d6] }
  | _ => none }
def lawS3798BOnceRow : OpenClaim := { program := "ybulkbzqc", sum := "bd7d58cee14331fb5e210a3c812a2802f7638271c051caa8474bd287a5f52506", func := "example.com/umbel/umbel.LawS3798BOnce", spec := "lawS3798BOnce", apart := false }
def LawS3798BOnceSaid : Prop := lawS3798BOnceRow.holds Yba.pinned (OpenSpec.ofChange lawS3798BOnceSpec)

/-- ITS FALSE NEIGHBOUR: 'it returns false'. Refute it at one input. -/
def lawS3798BOnceWrong : ChangeSpec := { name := "lawS3798BOnce", fn := fun _ => fun
  | [d1, d2, d3, d4, d5, d6] => { results := [.lit (.bool false)], args := [d1, d2, d3, d4, d5, d6] }
  | _ => none }
def LawS3798BOnceWrongFalsely : Prop := lawS3798BOnceRow.holds Yba.pinned (OpenSpec.ofChange lawS3798BOnceWrong)

/-- 'umbel.LawS3798CExact': WHATEVER THE INPUT: true; the input reads as it did. -/
def lawS3798CExactSpec : ChangeSpec := { name := "lawS3798CExact", fn := fun _ => fun
  | [d1, d2, d3, d4, d5] => { results := [.lit (.bool true)], args := [d1, d2, d3, d4, d5] }
  | _ => none }
def lawS3798CExactRow : OpenClaim := { program := "ybulkbzqc", sum := "bd7d58cee14331fb5e210a3c812a2802f7638271c051caa8474bd287a5f52506", func := "example.com/umbel/umbel.LawS3798CExact", spec := "lawS3798CExact", apart := false }
def LawS3798CExactSaid : Prop := lawS3798CExactRow.holds Yba.pinned (OpenSpec.ofChange lawS3798CExactSpec)

/-- ITS FALSE NEIGHBOUR: 'it returns false'. Refute it at one input. -/
def lawS3798CExactWrong : ChangeSpec := { name := "lawS3798CExact", fn := fun _ => fun
  | [d1, d2, d3, d4, d5] => { results := [.lit (.bool false)], args := [d1, d2, d3, d4, d5] }
  | _ => none }
def LawS3798CExactWrongFalsely : Prop := lawS3798CExactRow.holds Yba.pinned (OpenSpec.ofChange lawS3798CExactWrong)

end Rows
end Go.Proofs.Ybulkbzqc
