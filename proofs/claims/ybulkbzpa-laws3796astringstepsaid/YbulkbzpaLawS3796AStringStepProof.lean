/- The proof of 'Rows.LawS3796AStringStepSaid': the guide's frame at this function's number and types; the walk is ours. -/
import Derived.Test.YbulkbzpaRows
import Derived.WalkKit
import Derived.ProofKit
import Derived.OpenShut
import Derived.ShutString
import Derived.BigQuiet
import Derived.Test.YbulkbzpaCtx
namespace Go.Proofs.Ybulkbzpa.lawS3796AStringStep
open Go.ChangeShapes Go.WideShapes Go.ChangeAt Go.RowKit
open Go.ChangeMaps (open_string shut_string)
set_option linter.unusedVariables false      -- a walk need not use every 'w<i>' (that an integer argument fits its kind)

theorem own : ownKnob Yba.prog.godebug = none := by kernel_rfl

/-! ### splitStep: a closure over a new variable that holds the predicate -/
theorem split (n : Nat) (cs : Array Value) (w : World) : Calls Yba.prog 12 #[.func (.func n) #[] cs] w fun e w' => e = .returned (.func (.func 17) #[] #[.pointer (some ⟨w.heap.size, 0, none⟩)]) ∧ w' = w.alloc (.cells #[.func (.func n) #[] cs] 38) := by
  go_enter Yba.func12, Yba.ntmps12
  go_wp2
  go_ret
  exact ⟨rfl, rfl⟩

/-! ### STEP 1: THE WALK -/
set_option maxRecDepth 100000 in
set_option maxHeartbeats 2000000 in
theorem walk (a0 : ByteArray) (a1 : Bool) (a2 : Bool) (w0 : a0.size ≤ maxLen) (w : World) :
    Calls Yba.prog 4 #[.string a0, .bool a1, .bool a2] w fun e w' => e = .returned (.bool true) ∧ Grown w w' := by
  have hc := Ctx.neqCtx
  have he := Ctx.neqErr
  cases a2 with
  | true =>
    go_enter Yba.func4, Yba.ntmps4
    go_wp2_with (first | (go_at_call 7; refine (Ctx.background _).mono ?_; rintro e w' ⟨rfl, rfl⟩) | (go_at_call 8; refine (Ctx.errnew _ _).mono ?_; rintro e w' ⟨rfl, rfl⟩) | (go_at_call 6; refine (Ctx.withValue _ _).mono ?_; rintro e w' ⟨rfl, rfl⟩) | (go_at_call 12; refine (split _ _ _).mono ?_; rintro e w' ⟨rfl, rfl⟩) | go_in)
    go_quiet (fail)
    go_wp2
    refine bodyPost_ret (v := .tuple #[.agg #[.string a0, .bool (!a1)], .bool true, .iface 95 (.pointer (some ⟨w.heap.size + 1 + 1 + 1, 0, none⟩))]) (by simp [results, Yba.results17, go_sem]) rfl ?_
    simp only []
    go_at_K
    go_wp2
    go_ret
    exact ⟨rfl, by repeat (with_reducible first | refine Grown.alloc ?_ _ _ | refine Grown.setCell ?_ (by simp only []; omega) _ | refine Ctx.grown_drewN ?_ _ | exact Grown.refl _)⟩
  | false =>
    go_enter Yba.func4, Yba.ntmps4
    go_wp2_with (first | (go_at_call 7; refine (Ctx.background _).mono ?_; rintro e w' ⟨rfl, rfl⟩) | (go_at_call 8; refine (Ctx.errnew _ _).mono ?_; rintro e w' ⟨rfl, rfl⟩) | (go_at_call 6; refine (Ctx.withValue _ _).mono ?_; rintro e w' ⟨rfl, rfl⟩) | (go_at_call 12; refine (split _ _ _).mono ?_; rintro e w' ⟨rfl, rfl⟩) | go_in)
    refine bodyPost_ret (v := .tuple #[.agg #[.string a0, .bool (!a1)], .bool true, .nilIface]) (by simp [results, Yba.results17, go_sem]) rfl ?_
    simp only []
    go_at_K
    go_wp2
    go_ret
    exact ⟨rfl, by repeat (with_reducible first | refine Grown.alloc ?_ _ _ | refine Grown.setCell ?_ (by simp only []; omega) _ | refine Ctx.grown_drewN ?_ _ | exact Grown.refl _)⟩

/-! ### THE ROW's STEP: WRITTEN OUT: LEAVE IT -/
set_option maxRecDepth 100000 in
theorem lifted (os : Os) (started : os.Started) (H : Type) (enc : TypeId × Value → H) :
    ReturnsInHanded {} Yba.checked os 4 .any (Rows.lawS3796AStringStepSpec.pre6 enc Yba.prog Yba.f4 Rows.lawS3796AStringStepRow.domain false) (Rows.lawS3796AStringStepSpec.post enc Yba.prog Yba.f4 false true false false) := by
  refine returnsInHanded_of_change (C := Yba.checked) own started (by kernel_rfl) Yba.func4
    (ChangeSpec.witness6 (enc := enc) (C := Yba.checked) false ⟨#[], #[.string ByteArray.empty, .bool false, .bool false], []⟩ 8 (by kernel_rfl) (by kernel_rfl) (by kernel_rfl) (by kernel_rfl)) ?_
  intro W base args ds gs before hval0 hW hcnd _
  have hval : ∀ (j : Nat) t v, Yba.f4.params[j]? = some t → args[j]? = some v → Value.okWide Yba.prog W .any base t v := hval0
  have hW' := hW
  obtain ⟨p, q, hA0, hV, rfl, hfz, hnd⟩ := hW
  have hA : DataW.TrodAll enc Yba.prog W 0 (fun _ => true) true Yba.f4.params.toList args.toList ds p := hA0
  rw [Yba.params4] at hA hval
  obtain ⟨v0, vs0, d0, ds0, p0, q0, hargs, rfl, rfl, h0, r0⟩ := trodAll_cons hA
  obtain ⟨v1, vs1, d1, ds1, p1, q1, rfl, rfl, rfl, h1, r1⟩ := trodAll_cons r0
  obtain ⟨v2, vs2, d2, ds2, p2, q2, rfl, rfl, rfl, h2, r2⟩ := trodAll_cons r1
  obtain ⟨rfl, rfl, rfl⟩ := trodAll_nil r2
  obtain rfl : args = #[v0, v1, v2] := by cases args; simp_all
  obtain ⟨rfl, rfl⟩ := trodVars_none hV
  obtain ⟨a0, rfl, rfl, rfl, w0⟩ := open_string Yba.underlying9 (hval 0 9 v0 rfl rfl) h0
  obtain ⟨a1, rfl, rfl, rfl⟩ := open_bool Yba.underlying4 (hval 1 4 v1 rfl rfl) h1
  obtain ⟨a2, rfl, rfl, rfl⟩ := open_bool Yba.underlying4 (hval 2 4 v2 rfl rfl) h2
  clear hA0 hval0
  simp only [List.append_nil] at hW'
  refine (walk a0 a1 a2 w0 W).mono fun e W' ⟨he, hg⟩ => ?_
  subst he
  exact ⟨_, rfl, post_of_same (pa := []) (pv := []) hW' (fun _ _ _ => (trodAll_cons_mk (shut_bool Yba.underlying4 _) trodAll_mk0)) (fun sp _ => (trodAll_cons_mk (shut_string Yba.underlying9 w0) (trodAll_cons_mk (shut_bool Yba.underlying4 _) (trodAll_cons_mk (shut_bool Yba.underlying4 _) trodAll_mk0)))) (fun _ _ => rfl) rfl
    (hg.frame _) hg.2.1 (ok_one (by kernel_rfl) rfl (okWide_bool_mk Yba.underlying4 _))⟩

theorem over : Rows.lawS3796AStringStepRow.holds Yba.pinned (OpenSpec.ofChange Rows.lawS3796AStringStepSpec) :=
  OpenClaim.holds_of_wide 4 Yba.f4 rfl rfl rfl rfl rfl rfl rfl ⟨rfl, rfl, rfl, rfl, rfl⟩ rfl rfl rfl rfl rfl (by kernel_rfl) Yba.func4 (by kernel_rfl)
    (of_decide_eq_true (by kernel_rfl)) (by unfold Func.isWrapper; first | (rw [if_pos (by decide +kernel)]; kernel_rfl) | (rw [if_neg (by decide +kernel)]; exact ⟨rfl, rfl⟩))
    (fun os started H enc _ => lifted os started H enc)

/-- ████ THE STATEMENT ████ -/
theorem proved : Rows.LawS3796AStringStepSaid :=
  over
#print axioms proved
end Go.Proofs.Ybulkbzpa.lawS3796AStringStep
