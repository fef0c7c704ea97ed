/- Shared by the two laws of this seat: what context.Background, context.WithValue (at this program's key type), errors.New and '!=' between two interface values holding one pointer come to. -/
import Derived.Test.YbulkbzpaRows
import Derived.WalkKit
import Derived.ProofKit
import Derived.OpenShut
import Derived.ShutString
import Derived.LaidEql
import Derived.BigQuiet
namespace Go.Proofs.Ybulkbzpa.Ctx
open Go.ChangeShapes Go.WideShapes Go.ChangeAt Go.RowKit
open Go.Extern

theorem tyTypeOf (v : Value) (w : World) : (Extern.ReflectliteType.typeOf #[.iface 27 v]).run Yba.prog w = .ok (.iface 109 (.agg #[.pointer (some ⟨0, 27, none⟩)])) w := by kernel_rfl
def compEntry : Array Value → Sem Value := Extern.ReflectliteType.method fun t => do Extern.Rtype.noPackHeld "Comparable" t; pure (.bool (← typeInfo t).comparable)
theorem tyComparable (w : World) : (compEntry #[.agg #[.pointer (some ⟨0, 27, none⟩)]]).run Yba.prog w = .ok (.bool true) w := by kernel_rfl
theorem tyMethod (v : Value) (w : World) : (Go.method 272 109 v "Comparable").run Yba.prog w = .ok (53, v) w := by kernel_rfl

theorem background (w : World) : Calls Yba.prog 7 #[] w fun e w' => e = .returned (.iface 94 (.agg #[])) ∧ w' = w := by
  go_enter Yba.func7, Yba.ntmps7
  go_wp2
  go_ret
  exact ⟨rfl, rfl⟩

theorem errnew (s : ByteArray) (w : World) : Calls Yba.prog 8 #[.string s] w fun e w' => e = .returned (.iface 95 (.pointer (some ⟨w.heap.size, 0, none⟩))) ∧ w' = w.alloc (.cells #[.string s] 97) := by
  go_enter Yba.func8, Yba.ntmps8
  go_wp2
  go_ret
  exact ⟨rfl, rfl⟩

set_option maxRecDepth 100000 in
theorem withValue (n : Int) (w : World) : Calls Yba.prog 6 #[.iface 94 (.agg #[]), .iface 27 (.agg #[]), .iface 3 (.int .i64 n)] w fun e w' => e = .returned (.iface 89 (.pointer (some ⟨w.heap.size, 0, none⟩))) ∧ w' = w.alloc (.cells #[.iface 94 (.agg #[]), .iface 27 (.agg #[]), .iface 3 (.int .i64 n)] 91) := by
  have h8 := @run_callFunc_extern Yba.prog 15 _ Extern.ReflectliteType.typeOf Yba.func15 (by kernel_rfl) (by kernel_rfl) (by kernel_rfl) (by kernel_rfl)
  have h32 := @run_callFunc_extern Yba.prog 53 _ compEntry Yba.func53 (by kernel_rfl) (by kernel_rfl) (by kernel_rfl) (by kernel_rfl)
  have tT := tyTypeOf
  have cT := tyComparable
  have mR := tyMethod
  go_enter Yba.func6, Yba.ntmps6
  go_wp2
  go_ret
  exact ⟨rfl, rfl⟩


theorem run_neq_iface_ptr_same {P : Program} {ti tp te : TypeId} {ms : Array (String × TypeId)} {i j : TypeInfo} (a : Addr) (w : World)
    (hi : P.underlying ti = some (.interface ms)) (hp : P.underlying tp = some (.pointer te)) (hinfo : P.info? tp = some i) (hcomp : i.comparable = true) (hte : P.info? te = some j) :
    (binOp .neq ti (.iface tp (.pointer (some a))) (.iface tp (.pointer (some a)))).run P w = .ok (.bool false) w := by
  simp only [binOp]
  simp [Op.equal, Op.maxDepth, run_equalIn_iface_ptr_same w 9998 a hi hp hinfo hcomp hte]

theorem comp89 : (Yba.prog.info? 89).map (·.comparable) = some true := by kernel_rfl
theorem comp95 : (Yba.prog.info? 95).map (·.comparable) = some true := by kernel_rfl
theorem size91 : (Yba.prog.info? 91).isSome = true := by kernel_rfl
theorem size97 : (Yba.prog.info? 97).isSome = true := by kernel_rfl

theorem neqCtx (a : Addr) (w : World) : (binOp .neq 23 (.iface 89 (.pointer (some a))) (.iface 89 (.pointer (some a)))).run Yba.prog w = .ok (.bool false) w := by
  obtain ⟨i, hi, hcmp⟩ := Option.map_eq_some_iff.1 comp89
  obtain ⟨j, hj⟩ := Option.isSome_iff_exists.1 size91
  exact run_neq_iface_ptr_same a w Yba.underlying23 Yba.underlying89 hi hcmp hj
theorem neqErr (a : Addr) (w : World) : (binOp .neq 29 (.iface 95 (.pointer (some a))) (.iface 95 (.pointer (some a)))).run Yba.prog w = .ok (.bool false) w := by
  obtain ⟨i, hi, hcmp⟩ := Option.map_eq_some_iff.1 comp95
  obtain ⟨j, hj⟩ := Option.isSome_iff_exists.1 size97
  exact run_neq_iface_ptr_same a w Yba.underlying29 Yba.underlying95 hi hcmp hj

theorem grown_drewN {W w' : World} (h : Grown W w') (n : Nat) : Grown W (w'.drewN n) := by
  induction n generalizing w' with
  | zero => exact h
  | succ n ih => exact ih h.drew

end Go.Proofs.Ybulkbzpa.Ctx
