/- Numbers alone: where 'int(uint(a) % uint(n+1))' lies. -/
import Derived.WalkKit
import Derived.Laws.Bits64
namespace Go.Proofs.Ybulkbzqc.Arith
theorem wrap_nonneg (a : Int) : 0 ≤ IntKind.u64.wrap a := by
  rw [IntKind.wrap_u64]
  omega
theorem rem_at (a : Int) (n : Nat) : ∃ st : Nat, (IntKind.u64.wrap a).tmod ((n : Int) + 1) = (st : Int) ∧ st ≤ n := by
  have h0 := wrap_nonneg a
  have h1 := Int.tmod_nonneg ((n : Int) + 1) h0
  have h2 := Int.tmod_lt_of_pos (IntKind.u64.wrap a) (show (0 : Int) < (n : Int) + 1 by omega)
  exact ⟨((IntKind.u64.wrap a).tmod ((n : Int) + 1)).toNat, by omega, by omega⟩
theorem rem_upto (b : Int) (n st : Nat) (h : st ≤ n) : ∃ d : Nat, (IntKind.u64.wrap b).tmod ((n : Int) - (st : Int) + 1) = (d : Int) ∧ st + d ≤ n := by
  obtain ⟨d, hd, hl⟩ := rem_at b (n - st)
  refine ⟨d, ?_, by omega⟩
  rw [← hd]
  congr 1
  omega
end Go.Proofs.Ybulkbzqc.Arith
