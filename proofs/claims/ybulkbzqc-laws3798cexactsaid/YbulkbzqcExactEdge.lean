/- The walk of LawS3798CExact at an empty slice, and at one of more than 1024 numbers. -/
import Derived.Test.YbulkbzqcRows
import Derived.WalkKit
import Derived.ProofKit
import Derived.OpenShut
import Derived.ShutString
import Derived.BigQuiet
import Derived.Test.YbulkbzqcExactParts
import Derived.Test.YbulkbzqcNested
namespace Go.Proofs.Ybulkbzqc.ExactEdge
open Go.ChangeShapes Go.WideShapes Go.ChangeAt Go.RowKit
open Go.Proofs.Ybulkbzqc.Exact Go.Proofs.Ybulkbzqc.Nested Go.Proofs.Ybulkbzqc.Mem

theorem walk_great (a0 : Option Addr) (n cap : Nat) (a1 a2 a3 : Int) (a4 : Bool) (w : World) (hn : 1024 < n) (hm : n ≤ maxLen) :
    Calls Yba.prog 5 #[.slice a0 n cap, .int .u16 a1, .int .i64 a2, .int .i64 a3, .bool a4] w fun e w' => e = .returned (.bool true) ∧ Below w.heap.size w w' := by
  unfold maxLen at hm
  go_enter Yba.func5, Yba.ntmps5
  go_wp2
  go_ret
  exact ⟨rfl, Below.refl _ _⟩

theorem info39 : (Yba.prog.info? 39).map (fun i => (i.zero, i.size, i.bytes)) = some (some (.agg #[.string ⟨#[]⟩, .int .i64 0, .bool false]), 3, 32) := by kernel_rfl

set_option maxRecDepth 100000 in
set_option maxHeartbeats 1000000 in
theorem walk_none (a0 : Option Addr) (cap : Nat) (q : Nat) (a2 : Int) (a3 : Int) (a4 : Bool) (w : World) (hq : q ≤ 65535) :
    Calls Yba.prog 5 #[.slice a0 0 cap, .int .u16 q, .int .i64 a2, .int .i64 a3, .bool a4] w fun e w' => e = .returned (.bool true) ∧ Below w.heap.size w w' := by
  obtain ⟨i39, hi, hz0, hz1, hz2⟩ := info_parts info39
  go_enter Yba.func5, Yba.ntmps5
  go_wp2_with (at_make; refine wpList_make_full _ rfl _ _ 37 rfl w.heap.size 39 i39 _ 3 Yba.underlying37 hi hz0 hz1 _ _ _ _ 0 rfl rfl rfl rfl (by omega) (by unfold maxLen; omega) (Nat.le_refl _) ?_)
  intro w1 hown hgrow
  have hF : Fill w1 w.heap.size 0 0 (fun _ => 0) := Fill.start hown rfl
  have hB : Below w.heap.size w w1 := (Below.refl _ _).grown hgrow (Nat.le_refl _) (fun k h => by cases h)
  clear hown hgrow hz0 hz1 hz2 hi i39
  have hH := hF.held 0 a3 a4
  have hBa := hB.alloc hB.size (.cells #[.slice (some ⟨w.heap.size, 0, none⟩) 0 0, .int .i64 (0 : Nat), .int .i64 a3, .bool a4] 42)
  have HH := hid hH
  have HB := hid hBa
  clear hH hBa hF hB
  go_wp2
  refine wp_loop_rounds 1 ?_
  rw [rounds_succ]
  go_wp2_with fail
  refine (nested_any w1.heap.size w.heap.size 0 0 (fun _ => 0) a2 0 _ (by omega) (.inr (.inr rfl)) HH.out.1 HH.out.2.1 (fun j h => absurd h (by omega))).mono ?_
  rintro e w2 ⟨r, rfl, hfi, nq, hw2⟩
  have hr : 0 = r := by have := hfi.1; omega
  subst hr
  have hH2 := Held.drewN HH.out nq
  have hB2 := Below.drewN HB.out nq
  rw [← hw2] at hH2 hB2
  clear hw2 HH HB hfi
  obtain ⟨hp0, hp1, hp2, hp3, _⟩ := hH2
  have HB2 := hid hB2
  clear hB2
  generalize w1.heap.size = P at *
  cases he : (a2 == 0)
  all_goals
    go_wp2
    refine wp_loop_rounds 1 ?_
    rw [rounds_succ]
    go_wp2
    refine wp_loop_rounds 1 ?_
    rw [rounds_succ]
    go_wp2
    go_ret
    exact ⟨rfl, HB2.out⟩
end Go.Proofs.Ybulkbzqc.ExactEdge
