/- The proof of 'Rows.LawS3798BScriptSaid': the guide's way (Derived/Deep/Slices.lean opens the slice of structs; 'Below' for the frame) at this function's number and types; the walks are ours (ScriptWalk). -/
import Derived.Test.YbulkbzqcRows
import Derived.WalkKit
import Derived.ProofKit
import Derived.OpenShut
import Derived.ShutString
import Derived.ChangeOld
import Derived.Below
import Derived.Deep.Slices
import Derived.Test.YbulkbzqcScriptWalk
namespace Go.Proofs.Ybulkbzqc.lawS3798BScript
open Go.ChangeShapes Go.WideShapes Go.ChangeAt Go.RowKit
open Go.ChangeMaps (open_string shut_string)
open Go.Proofs.Ybulkbzqc.Script

theorem own : ownKnob Yba.prog.godebug = none := by kernel_rfl
theorem laidOut : laidOutB Yba.prog = true := by kernel_rfl
theorem cells24 : Yba.prog.cellsOf 24 = 4 := by kernel_rfl
theorem cells5 : Yba.prog.cellsOf 5 = 1 := by kernel_rfl
theorem cells3 : Yba.prog.cellsOf 3 = 1 := by kernel_rfl
theorem cells9 : Yba.prog.cellsOf 9 = 1 := by kernel_rfl

/-- The script opened at every step. -/
theorem open_steps {H : Type} {enc : TypeId × Value → H} {W : World} {fuel : Nat} {a0 : Option Addr} {len cap : Nat} {x : DataW H × List MemPlace}
    (h : DataW.trod enc Yba.prog W 0 (fun _ => true) true fuel 22 [.slice a0 len cap] = some x) :
    len ≤ maxLen ∧ (len = 0 ∨ ∃ b off, a0 = some ⟨b, off, none⟩ ∧ Script.Steps W b off len) := by
  rcases Deep.open_slice Yba.underlying22 h with ⟨hcs, _⟩ | ⟨a, len', cap', m, n, D, Pl, hcs, _, hl, hm, hmm, _, hx⟩
  · simp at hcs
    exact ⟨by unfold maxLen; omega, .inl hcs.2.1⟩
  · simp at hcs
    obtain ⟨rfl, rfl, rfl⟩ := hcs
    have hlm : len ≤ m := by rw [hmm]; simpa using hl
    refine ⟨by omega, ?_⟩
    by_cases h0 : len = 0
    · exact .inl h0
    · right
      have each : ∀ j, j < len → ∃ (o : Nat) (A B : Int) (S : ByteArray), o ≤ 255 ∧ S.size ≤ maxLen ∧ W.cell? (a.add (j * 4)) = some (.int .u8 (o : Int)) ∧ W.cell? (a.add (j * 4 + 1)) = some (.int .i64 A) ∧ W.cell? (a.add (j * 4 + 2)) = some (.int .i64 B) ∧ W.cell? (a.add (j * 4 + 3)) = some (.string S) := by
        intro j hj
        obtain ⟨cs', h1, h2⟩ := hx j (by omega)
        rw [cells24] at h1
        obtain ⟨_, hlen, hcell⟩ := World.cells?_some h1
        obtain ⟨xs, k, hk, _, _, hxl, hf⟩ := DataW.trod_struct Yba.underlying24 h2
        match xs, hxl, cs', hlen with
        | [y0, y1, y2, y3], _, [v0, v1, v2, v3], _ =>
          have g0 := hf 0 _ rfl
          have g1 := hf 1 _ rfl
          have g2 := hf 2 _ rfl
          have g3 := hf 3 _ rfl
          simp [cells5, cells3, cells9] at g0 g1 g2 g3
          obtain ⟨o, e0, _, wo⟩ := DataW.trod_int Yba.underlying5 g0
          obtain ⟨A, e1, _, _⟩ := DataW.trod_int Yba.underlying3 g1
          obtain ⟨B, e2, _, _⟩ := DataW.trod_int Yba.underlying3 g2
          obtain ⟨S, e3, _, hS⟩ := DataW.trod_string Yba.underlying9 g3
          simp at e0 e1 e2 e3
          subst e0 e1 e2 e3
          have ho := bounds_u8 wo
          have c0 := hcell 0 (by omega)
          have c1 := hcell 1 (by omega)
          have c2 := hcell 2 (by omega)
          have c3 := hcell 3 (by omega)
          rw [Deep.add_add] at c0 c1 c2 c3
          refine ⟨o.toNat, A, B, S, by omega, hS, ?_, by simpa using c1, by simpa using c2, by simpa using c3⟩
          rw [Int.toNat_of_nonneg ho.1]
          simpa using c0
      obtain ⟨b, off, spot⟩ := a
      have hspot : spot = none := by
        obtain ⟨o, A, B, S, _, _, hc, _⟩ := each 0 (by omega)
        simpa [Addr.add] using World.cell?_spot hc
      subst hspot
      refine ⟨b, off, rfl, fun j hj => ?_⟩
      obtain ⟨o, A, B, S, ho, hS, c0, c1, c2, c3⟩ := each j hj
      rw [add_plain] at c0 c1 c2 c3
      exact ⟨o, A, B, S, ho, hS, c0, by simpa [Nat.add_assoc] using c1, by simpa [Nat.add_assoc] using c2, by simpa [Nat.add_assoc] using c3⟩

theorem walk (src : ByteArray) (a0 : Option Addr) (len cap : Nat) (w : World) (w0 : src.size ≤ maxLen) (w1 : len ≤ maxLen) (hs : len = 0 ∨ ∃ b off, a0 = some ⟨b, off, none⟩ ∧ Script.Steps w b off len) :
    Calls Yba.prog 3 #[.string src, .slice a0 len cap] w fun e w' => e = .returned (.bool true) ∧ Below w.heap.size w w' := by
  by_cases h : 1024 < src.size ∨ 1024 < len
  · exact walk_great src a0 len cap w w0 w1 h
  · by_cases h0 : len = 0
    · subst h0
      exact walk_none src a0 cap w (by omega)
    · rcases hs with hs | ⟨b, off, rfl, hs⟩
      · exact absurd hs h0
      · exact walk_some src b off len cap w (by omega) (by omega) (by omega) hs

/-! ### THE ROW's STEP -/
set_option maxRecDepth 100000 in
theorem lifted (os : Os) (started : os.Started) (H : Type) (enc : TypeId × Value → H) :
    ReturnsInHanded {} Yba.checked os 3 .any (Rows.lawS3798BScriptSpec.pre6 enc Yba.prog Yba.f3 Rows.lawS3798BScriptRow.domain false) (Rows.lawS3798BScriptSpec.post enc Yba.prog Yba.f3 false true false false) := by
  refine returnsInHanded_of_change (C := Yba.checked) own started (by kernel_rfl) Yba.func3
    (ChangeSpec.witness6 (enc := enc) (C := Yba.checked) false ⟨#[], #[.string ByteArray.empty, .slice none 0 0], []⟩ 8 (by kernel_rfl) (by kernel_rfl) (by kernel_rfl) (by kernel_rfl)) ?_
  intro W base args ds gs before hval0 hW hcnd _
  have hval : ∀ (j : Nat) t v, Yba.f3.params[j]? = some t → args[j]? = some v → Value.okWide Yba.prog W .any base t v := hval0
  have hW' := hW
  obtain ⟨p, q, hA0, hV, rfl, hfz, hnd⟩ := hW
  have hA : DataW.TrodAll enc Yba.prog W 0 (fun _ => true) true Yba.f3.params.toList args.toList ds p := hA0
  rw [Yba.params3] at hA hval
  obtain ⟨v0, vs0, d0, ds0, p0, q0, hargs, rfl, rfl, h0, r0⟩ := trodAll_cons hA
  obtain ⟨v1, vs1, d1, ds1, p1, q1, rfl, rfl, rfl, h1, r1⟩ := trodAll_cons r0
  obtain ⟨rfl, rfl, rfl⟩ := trodAll_nil r1
  obtain rfl : args = #[v0, v1] := by cases args; simp_all
  obtain ⟨rfl, rfl⟩ := trodVars_none hV
  obtain ⟨a0, rfl, rfl, rfl, w0⟩ := open_string Yba.underlying9 (hval 0 9 v0 rfl rfl) h0
  obtain ⟨a1, len1, cap1, rfl⟩ := okWide_slice Yba.underlying22 (hval 1 22 v1 rfl rfl)
  have k1 := h1
  have lt1 : ∀ x ∈ p1, x.block < W.heap.size := by obtain ⟨m, hm⟩ := k1; exact DataW.trod_lt m _ _ _ hm
  obtain ⟨w1, hs1⟩ : len1 ≤ maxLen ∧ (len1 = 0 ∨ ∃ b off, a1 = some ⟨b, off, none⟩ ∧ Script.Steps W b off len1) := by
    obtain ⟨fuel, hf⟩ := h1
    exact open_steps (by simpa [Value.cells] using hf)
  clear hA0 hval0
  refine (walk a0 a1 len1 cap1 W w0 w1 hs1).mono fun e W' ⟨he, bel⟩ => ?_
  subst he
  exact ⟨_, rfl, _, _, _, [], _, [], hW', trodAll_mk1 (shut_bool Yba.underlying4 _), (trodAll_cons_mk (shut_string Yba.underlying9 w0) (trodAll_cons_mk (Below.trod laidOut (by kernel_rfl) (of_decide_eq_true (by kernel_rfl)) k1 bel lt1) trodAll_mk0)), rfl, bel.frame _, fun h => by cases h⟩

theorem over : Rows.lawS3798BScriptRow.holds Yba.pinned (OpenSpec.ofChange Rows.lawS3798BScriptSpec) :=
  OpenClaim.holds_of_wide 3 Yba.f3 rfl rfl rfl rfl rfl rfl rfl ⟨rfl, rfl, rfl, rfl, rfl⟩ rfl rfl rfl rfl rfl (by kernel_rfl) Yba.func3 (by kernel_rfl)
    (of_decide_eq_true (by kernel_rfl)) (by unfold Func.isWrapper; first | (rw [if_pos (by decide +kernel)]; kernel_rfl) | (rw [if_neg (by decide +kernel)]; exact ⟨rfl, rfl⟩))
    (fun os started H enc _ => lifted os started H enc)

/-- THE STATEMENT -/
theorem proved : Rows.LawS3798BScriptSaid := over
#print axioms proved
end Go.Proofs.Ybulkbzqc.lawS3798BScript
