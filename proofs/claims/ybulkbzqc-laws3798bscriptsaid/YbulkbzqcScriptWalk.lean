/- The walk of LawS3798BScript. -/
import Derived.Test.YbulkbzqcScriptParts
import Derived.Test.YbulkbzqcArith
import Derived.OpenShut
namespace Go.Proofs.Ybulkbzqc.Script
open Go.RowKit Go.Proofs.Ybulkbzqc.Mem Go.Proofs.Ybulkbzqc.Txt Go.Proofs.Ybulkbzqc.Dash Go.Proofs.Ybulkbzqc.Arith

/-- The script's n steps as they lie in memory. -/
def Steps (w : World) (b off n : Nat) : Prop := ∀ j, j < n → ∃ (o : Nat) (A B : Int) (S : ByteArray), o ≤ 255 ∧ S.size ≤ maxLen ∧
  w.cell? ⟨b, off + j * 4, none⟩ = some (.int .u8 (o : Int)) ∧ w.cell? ⟨b, off + j * 4 + 1, none⟩ = some (.int .i64 A) ∧ w.cell? ⟨b, off + j * 4 + 2, none⟩ = some (.int .i64 B) ∧ w.cell? ⟨b, off + j * 4 + 3, none⟩ = some (.string S)

def Short (w : World) (b off k : Nat) : Prop := ∀ j s, j < k → w.cell? ⟨b, off + j * 4 + 3, none⟩ = some (.string s) → s.size ≤ 1024
theorem Short.zero (w : World) (b off : Nat) : Short w b off 0 := fun j _ h => absurd h (by omega)
theorem Short.succ {w : World} {b off k : Nat} {S : ByteArray} (h : Short w b off k) (hc : w.cell? ⟨b, off + k * 4 + 3, none⟩ = some (.string S)) (hS : S.size ≤ 1024) : Short w b off (k + 1) := by
  intro j s hj hs
  by_cases e : j = k
  · subst e
    rw [hc] at hs
    simp at hs
    subst hs
    exact hS
  · exact h j s (by omega) hs

/-- What holds at the head of round k of the script. -/
def Rel (w wr : World) (src : ByteArray) (k : Nat) (ms : Value) : Prop := ∃ st en cp v l M, Inv w wr w.heap.size src st en cp v l ms M M ∧ M.length ≤ k * 1024

set_option maxRecDepth 100000 in
set_option maxHeartbeats 3200000 in
theorem walk_some (src : ByteArray) (b off n cap : Nat) (w : World) (h1 : src.size ≤ 1024) (hn0 : 0 < n) (hn : n ≤ 1024) (hs : Steps w b off n) :
    Calls Yba.prog 3 #[.string src, .slice (some ⟨b, off, none⟩) n cap] w fun e w' => e = .returned (.bool true) ∧ Below w.heap.size w w' := by
  have hbB : b < w.heap.size := by obtain ⟨o, A, B, S, _, _, hc, _⟩ := hs 0 hn0; exact lt_of_cell hc
  obtain ⟨i5, hi, hz0, hz1, hz2⟩ := info_parts info5
  have HS := hid hs
  clear hs
  go_enter Yba.func3, Yba.ntmps3
  go_wp2
  go_loop [23] (fun i => ∃ k : Nat, k ≤ n ∧ i = .int .i64 k ∧ Short w b off k) (fun i => n - (intOf i).toNat)
  case atStart => exact ⟨0, Nat.zero_le _, rfl, Short.zero _ _ _⟩
  case round =>
    obtain ⟨k, hk, rfl, hsh⟩ := hrel
    have HH := hid hsh
    clear hsh
    by_cases hlt : k < n
    · obtain ⟨o, A, B, S, ho, hm, c0, c1, c2, c3⟩ := HS.out k hlt
      unfold maxLen at hm
      by_cases hS : S.size ≤ 1024
      · have HH' := hid (HH.out.succ c3 hS)
        go_wp2
        go_round
        case rel => exact ⟨k + 1, by omega, by go_num, HH'.out⟩
        case measure => simp [intOf]; omega
      · go_wp2
        go_ret
        exact ⟨rfl, Below.refl _ _⟩
    · have hkn : n = k := by omega
      subst hkn
      have HR : Hid (Rel w _ src 0 (.slice none 0 0)) := ⟨0, 0, false, .slice none 0 0, [], [], Inv.start w src, by simp⟩
      go_wp2
      go_loopw [7, 39] (fun ms i wr => ∃ k : Nat, k ≤ n ∧ i = .int .i64 k ∧ Rel w wr src k ms) (fun _ i _ => n - (intOf i).toNat)
      case atStart => exact ⟨0, Nat.zero_le _, rfl, HR.out⟩
      case round =>
        obtain ⟨k, hk, rfl, st, en, cp, v, l, M, hI, hM⟩ := hrel
        clear HR
        by_cases hlt : k < n
        · obtain ⟨o, A, B, S, ho, hm, c0, c1, c2, c3⟩ := HS.out k hlt
          have hS := HH.out k S hlt c3
          have hB := hI.2.2.2.2.2.2.2.2
          have e0 : wr.cell? ⟨b, off + k * 4, none⟩ = some (.int .u8 (o : Int)) := (hB.cell (p := ⟨b, off + k * 4, none⟩) hbB).trans c0
          have e1 : wr.cell? ⟨b, off + k * 4 + 1, none⟩ = some (.int .i64 A) := (hB.cell (p := ⟨b, off + k * 4 + 1, none⟩) hbB).trans c1
          have e2 : wr.cell? ⟨b, off + k * 4 + 2, none⟩ = some (.int .i64 B) := (hB.cell (p := ⟨b, off + k * 4 + 2, none⟩) hbB).trans c2
          have e3 : wr.cell? ⟨b, off + k * 4 + 3, none⟩ = some (.string S) := (hB.cell (p := ⟨b, off + k * 4 + 3, none⟩) hbB).trans c3
          obtain ⟨ao, mc, rfl, hmc, hmm⟩ := hI.2.2.2.2.1.form
          have hvlt : ∀ g, v.ownBlock = some g → g < wr.heap.size := fun g hg => hI.1.2.1.lt hg
          have hTlt : w.heap.size < wr.heap.size := lt_of_block hI.1.1
          have HI := hid (hI.alloc (.cells #[.int .u8 (o : Int), .int .i64 A, .int .i64 B, .string S] 24))
          clear hI hB c0 c1 c2 c3 hm
          rcases (show o % 3 = 0 ∨ o % 3 = 1 ∨ o % 3 = 2 by omega) with hr | hr | hr
          · have hr' : (o : Int) % 3 = 0 := by omega
            clear hr
            obtain ⟨f, hf, hf1⟩ := rem_at A src.size
            obtain ⟨d, hd, hd1⟩ := rem_upto B src.size f hf1
            obtain ⟨t, ht⟩ : ∃ t, t = f + d := ⟨_, rfl⟩
            have hft : (f : Int) + (d : Int) = (t : Int) := by omega
            have b2 : f ≤ t := by omega
            have b3 : t ≤ src.size := by omega
            clear ht hd1
            have hsz : (src.extract f t).size ≤ 1024 := by simp; omega
            have hpl := text_len (src := src) f t h1
            obtain ⟨N, hN⟩ : ∃ N, N = M ++ (src.extract f t).data.toList := ⟨_, rfl⟩
            have hNl : N.length ≤ (k + 1) * 1024 := by rw [hN, List.length_append]; omega
            have HN := hid hN
            clear hN hpl
            go_wp2_with fail
            refine (add_inv w _ w.heap.size src st en cp v l _ M M HI.out f t b2 b3 h1 (by omega)).mono ?_
            rintro e wa ⟨rfl, st', en', cp', v', l', hIa⟩
            have HIa := hid hIa
            clear hIa HI e0 e1 e2 e3 hf hd hft
            go_wp2_with (at_builtin; refine wpList_append (by rfl) _ _ _ _ (by rfl) 5 i5 Yba.underlying26 Yba.underlying9 hi hz0 hz1 hz2 (.slice ao M.length mc) M (by rfl) (by exact HIa.out.2.2.2.2.1) (src.extract f t) (by rfl) (by omega) ?_; intro a' n' c' wb ht hc hl; have hIb := HIa.out.model ht hc hl; rw [← HN.out] at hIb; have HIb := hid hIb; clear ht hc hl hIb)
            have hcv : ∀ nq, (convert 26 9 (.slice a' n' c')).run Yba.prog (wb.drewN nq) = .ok (.string ⟨N.toArray⟩) (wb.drewN nq) := fun nq => run_string (P := Yba.prog) (wb.drewN nq) 26 9 5 Yba.underlying26 Yba.underlying5 Yba.underlying9 _ _ (HIb.out.drewN nq).2.2.2.2.1
            go_wp2_with fail
            go_quiet ((go_at_call 9; exact Calls.quiet_of (string_inv w _ _ src st' en' cp' v' l' _ _ _ (HIb.out.drewN _))))
            go_wp2
            go_roundw
            case rel => exact ⟨k + 1, by omega, by go_num, st', en', cp', v', l', N, HIb.out.drewN _, hNl⟩
            case measure => simp [intOf]; omega
          · have hr' : (o : Int) % 3 = 1 := by omega
            clear hr
            have hpl : S.data.toList.length ≤ 1024 := by rw [Array.length_toList]; exact hS
            obtain ⟨N, hN⟩ : ∃ N, N = M ++ S.data.toList := ⟨_, rfl⟩
            have hNl : N.length ≤ (k + 1) * 1024 := by rw [hN, List.length_append]; omega
            have HN := hid hN
            clear hN hpl
            go_wp2_with fail
            refine (addString_inv w _ w.heap.size src st en cp v l _ M M HI.out S hS h1 (by omega)).mono ?_
            rintro e wa ⟨rfl, v', l', hIa, hca⟩
            have hstep := step_kept hca hTlt hvlt
            have s3 : wa.cell? ⟨wr.heap.size, 3, none⟩ = some (.string S) := blk_cell hstep 3
            have HIa := hid hIa
            clear hIa hca hstep HI e0 e1 e2 e3
            go_wp2_with (at_builtin; refine wpList_append (by rfl) _ _ _ _ (by rfl) 5 i5 Yba.underlying26 Yba.underlying9 hi hz0 hz1 hz2 (.slice ao M.length mc) M (by rfl) (by exact HIa.out.2.2.2.2.1) (S) (by rfl) (by omega) ?_; intro a' n' c' wb ht hc hl; have hIb := HIa.out.model ht hc hl; rw [← HN.out] at hIb; have HIb := hid hIb; have d3 := blk_cell HIb.out.1.1 3; simp at d3; clear ht hc hl hIb)
            have hcv : ∀ nq, (convert 26 9 (.slice a' n' c')).run Yba.prog (wb.drewN nq) = .ok (.string ⟨N.toArray⟩) (wb.drewN nq) := fun nq => run_string (P := Yba.prog) (wb.drewN nq) 26 9 5 Yba.underlying26 Yba.underlying5 Yba.underlying9 _ _ (HIb.out.drewN nq).2.2.2.2.1
            go_wp2_with fail
            go_quiet ((go_at_call 9; exact Calls.quiet_of (string_inv w _ _ src st en true v' l' _ _ _ (HIb.out.drewN _))))
            go_wp2
            go_roundw
            case rel => exact ⟨k + 1, by omega, by go_num, st, en, true, v', l', N, HIb.out.drewN _, hNl⟩
            case measure => simp [intOf]; omega
          · have hr' : (o : Int) % 3 = 2 := by omega
            clear hr
            have hNl : ([] : List UInt8).length ≤ (k + 1) * 1024 := by simp
            go_wp2_with fail
            refine (reset_inv w _ w.heap.size src st en cp v l _ M M HI.out).mono ?_
            rintro e wb ⟨rfl, v', hIa⟩
            have HIb := hid hIa.cut
            clear hIa HI e0 e1 e2 e3
            unfold maxLen at hmm
            have g1 : (0 : Int) ≤ (mc : Int) := by omega
            have hcv : ∀ nq, (convert 26 9 (.slice ao 0 mc)).run Yba.prog (wb.drewN nq) = .ok (.string ⟨([] : List UInt8).toArray⟩) (wb.drewN nq) := fun nq => run_string (P := Yba.prog) (wb.drewN nq) 26 9 5 Yba.underlying26 Yba.underlying5 Yba.underlying9 _ _ (HIb.out.drewN nq).2.2.2.2.1
            go_wp2_with fail
            go_quiet ((go_at_call 9; exact Calls.quiet_of (string_inv w _ _ src 0 0 false v' [] _ _ _ (HIb.out.drewN _))))
            go_wp2
            go_roundw
            case rel => exact ⟨k + 1, by omega, by go_num, 0, 0, false, v', [], ([] : List UInt8), HIb.out.drewN _, hNl⟩
            case measure => simp [intOf]; omega
        · go_wp2
          go_ret
          exact ⟨rfl, hI.2.2.2.2.2.2.2.2⟩

/-- An empty script. -/
theorem walk_none (src : ByteArray) (a0 : Option Addr) (cap : Nat) (w : World) (h1 : src.size ≤ 1024) :
    Calls Yba.prog 3 #[.string src, .slice a0 0 cap] w fun e w' => e = .returned (.bool true) ∧ Below w.heap.size w w' := by
  go_enter Yba.func3, Yba.ntmps3
  go_wp2
  refine wp_loop_rounds 1 ?_
  rw [rounds_succ]
  go_wp2
  refine wp_loop_rounds 1 ?_
  rw [rounds_succ]
  go_wp2
  go_ret
  exact ⟨rfl, (Below.refl _ _).alloc (Nat.le_refl _) _⟩

/-- A source of more than 1024 bytes, or more than 1024 steps: true at once. -/
theorem walk_great (src : ByteArray) (a0 : Option Addr) (n cap : Nat) (w : World) (w0 : src.size ≤ maxLen) (w1 : n ≤ maxLen) (h : 1024 < src.size ∨ 1024 < n) :
    Calls Yba.prog 3 #[.string src, .slice a0 n cap] w fun e w' => e = .returned (.bool true) ∧ Below w.heap.size w w' := by
  unfold maxLen at w0 w1
  by_cases h1 : 1024 < src.size
  · go_enter Yba.func3, Yba.ntmps3
    go_wp2
    go_ret
    exact ⟨rfl, Below.refl _ _⟩
  · have h2 : 1024 < n := by omega
    go_enter Yba.func3, Yba.ntmps3
    go_wp2
    go_ret
    exact ⟨rfl, Below.refl _ _⟩
end Go.Proofs.Ybulkbzqc.Script
