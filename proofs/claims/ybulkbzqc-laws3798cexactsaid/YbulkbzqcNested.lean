/- (*commentLines).nestedStart by its contracts. -/
import Derived.Test.YbulkbzqcRows
import Derived.WalkKit
import Derived.ProofKit
import Derived.OpenShut
import Derived.ShutString
import Derived.BigQuiet
namespace Go.Proofs.Ybulkbzqc.Nested
open Go.ChangeShapes Go.WideShapes Go.ChangeAt Go.RowKit

/-- r is the place of the first of the m numbers c 0, c 1, .. that exceeds t; m where none does. -/
def IsFirst (t : Int) (c : Nat → Int) (m r : Nat) : Prop := r ≤ m ∧ (∀ j, j < r → ¬ t < c j) ∧ (r < m → t < c r)

theorem IsFirst.unique {t : Int} {c : Nat → Int} {m r s : Nat} (h : IsFirst t c m r) (k : IsFirst t c m s) : r = s := by
  obtain ⟨h1, h2, h3⟩ := h
  obtain ⟨k1, k2, k3⟩ := k
  rcases Nat.lt_trichotomy r s with g | g | g
  · exact absurd (h3 (by omega)) (k2 r g)
  · exact g
  · exact absurd (k3 (by omega)) (h2 s g)

/-- What holds at the head of round k of the search. -/
def NoneYet (t : Int) (c : Nat → Int) (k : Nat) : Prop := ∀ j, j < k → ¬ t < c j
theorem NoneYet.zero (t : Int) (c : Nat → Int) : NoneYet t c 0 := fun j h => absurd h (by omega)
theorem NoneYet.succ {t : Int} {c : Nat → Int} {k : Nat} (h : NoneYet t c k) (hk : c k ≤ t) : NoneYet t c (k + 1) := by
  intro j hj
  by_cases e : j = k
  · subst e; omega
  · exact h j (by omega)
theorem NoneYet.hit {t : Int} {c : Nat → Int} {k m : Nat} (h : NoneYet t c k) (hk : t < c k) (hm : k < m) : IsFirst t c m k := ⟨by omega, h, fun _ => hk⟩
theorem NoneYet.miss {t : Int} {c : Nat → Int} {k m : Nat} (h : NoneYet t c k) (hm : k = m) : IsFirst t c m m := by subst hm; exact ⟨by omega, h, fun a => absurd a (by omega)⟩

set_option maxHeartbeats 1000000 in
/-- nestedStart at a first of 0, one line at the least. -/
theorem nested_zero (P B f m : Nat) (c : Nat → Int) (first : Int) (w : World) (hm : 0 < m) (hn : f + m ≤ 1024) (hz : (first == 0) = true)
   (hp0 : w.cell? ⟨P, 0, none⟩ = some (.slice (some ⟨B, 0, none⟩) (f + m) (f + m))) (hp1 : w.cell? ⟨P, 1, none⟩ = some (.int .i64 f))
   (hcol : ∀ j, j < m → w.cell? ⟨B, f * 3 + j * 3 + 1, none⟩ = some (.int .i64 (c j))) :
    Calls Yba.prog 10 #[.pointer (some ⟨P, 0, none⟩), .int .i64 first] w fun e w' => ∃ r : Nat, e = .returned (.int .i64 r) ∧ IsFirst (c 0) c m r ∧ ∃ nq, w' = w.drewN nq := by
  have hc0 : w.cell? ⟨B, f * 3 + 1, none⟩ = some (.int .i64 (c 0)) := by simpa using hcol 0 hm
  have HC : Hid (∀ j, j < m → w.cell? ⟨B, f * 3 + j * 3 + 1, none⟩ = some (.int .i64 (c j))) := hcol
  clear hcol
  go_enter Yba.func10, Yba.ntmps10
  go_wp2
  go_quiet (fail)
  go_wp2
  go_loop [29] (fun i => ∃ k : Nat, k ≤ m ∧ i = .int .i64 k ∧ NoneYet (c 0) c k) (fun i => m - (intOf i).toNat)
  case atStart => exact ⟨0, Nat.zero_le _, rfl, NoneYet.zero _ _⟩
  case round =>
    obtain ⟨k, hk, rfl, hno⟩ := hrel
    by_cases hlt : k < m
    · have hck := HC.out k hlt
      by_cases hgt : c 0 < c k
      · go_wp2
        go_ret
        exact ⟨k, rfl, hno.hit hgt hlt, _, rfl⟩
      · have hno' := hno.succ (by omega : c k ≤ c 0)
        go_wp2
        go_round
        case rel => exact ⟨k + 1, by omega, by go_num, hno'⟩
        case measure => simp [intOf]; omega
    · have hi := hno.miss (show k = m by omega)
      go_wp2
      go_ret
      exact ⟨m, rfl, hi, _, rfl⟩

set_option maxHeartbeats 1000000 in
/-- nestedStart at a first that is not 0, one line at the least. -/
theorem nested_else (P B f m : Nat) (c : Nat → Int) (first : Int) (w : World) (hm : 0 < m) (hn : f + m ≤ 1024) (hz : (first == 0) = false)
   (hp0 : w.cell? ⟨P, 0, none⟩ = some (.slice (some ⟨B, 0, none⟩) (f + m) (f + m))) (hp1 : w.cell? ⟨P, 1, none⟩ = some (.int .i64 f))
   (hcol : ∀ j, j < m → w.cell? ⟨B, f * 3 + j * 3 + 1, none⟩ = some (.int .i64 (c j))) :
    Calls Yba.prog 10 #[.pointer (some ⟨P, 0, none⟩), .int .i64 first] w fun e w' => ∃ r : Nat, e = .returned (.int .i64 r) ∧ IsFirst first c m r ∧ ∃ nq, w' = w.drewN nq := by
  have HC : Hid (∀ j, j < m → w.cell? ⟨B, f * 3 + j * 3 + 1, none⟩ = some (.int .i64 (c j))) := hcol
  clear hcol
  go_enter Yba.func10, Yba.ntmps10
  go_wp2
  go_quiet (fail)
  go_wp2
  go_loop [29] (fun i => ∃ k : Nat, k ≤ m ∧ i = .int .i64 k ∧ NoneYet first c k) (fun i => m - (intOf i).toNat)
  case atStart => exact ⟨0, Nat.zero_le _, rfl, NoneYet.zero _ _⟩
  case round =>
    obtain ⟨k, hk, rfl, hno⟩ := hrel
    by_cases hlt : k < m
    · have hck := HC.out k hlt
      by_cases hgt : first < c k
      · go_wp2
        go_ret
        exact ⟨k, rfl, hno.hit hgt hlt, _, rfl⟩
      · have hno' := hno.succ (by omega : c k ≤ first)
        go_wp2
        go_round
        case rel => exact ⟨k + 1, by omega, by go_num, hno'⟩
        case measure => simp [intOf]; omega
    · have hi := hno.miss (show k = m by omega)
      go_wp2
      go_ret
      exact ⟨m, rfl, hi, _, rfl⟩

set_option maxHeartbeats 1000000 in
/-- nestedStart where no line is left. -/
theorem nested_none (P B f : Nat) (first : Int) (w : World)
   (hp0 : w.cell? ⟨P, 0, none⟩ = some (.slice (some ⟨B, 0, none⟩) f f)) (hp1 : w.cell? ⟨P, 1, none⟩ = some (.int .i64 f)) :
    Calls Yba.prog 10 #[.pointer (some ⟨P, 0, none⟩), .int .i64 first] w fun e w' => e = .returned (.int .i64 0) ∧ ∃ nq, w' = w.drewN nq := by
  cases hz : (first == 0)
  all_goals
    go_enter Yba.func10, Yba.ntmps10
    go_wp2
    go_quiet (fail)
    go_wp2
    refine wp_loop_rounds 1 ?_
    rw [rounds_succ]
    go_wp2
    go_ret
    exact ⟨rfl, _, rfl⟩

/-- nestedStart, whatever it is handed: the place of the first line right of the threshold. -/
theorem nested_any (P B f m : Nat) (c : Nat → Int) (first thr : Int) (w : World) (hn : f + m ≤ 1024)
   (ht : (0 < m ∧ (first == 0) = true ∧ thr = c 0) ∨ (0 < m ∧ (first == 0) = false ∧ thr = first) ∨ m = 0)
   (hp0 : w.cell? ⟨P, 0, none⟩ = some (.slice (some ⟨B, 0, none⟩) (f + m) (f + m))) (hp1 : w.cell? ⟨P, 1, none⟩ = some (.int .i64 f))
   (hcol : ∀ j, j < m → w.cell? ⟨B, f * 3 + j * 3 + 1, none⟩ = some (.int .i64 (c j))) :
    Calls Yba.prog 10 #[.pointer (some ⟨P, 0, none⟩), .int .i64 first] w fun e w' => ∃ r : Nat, e = .returned (.int .i64 r) ∧ IsFirst thr c m r ∧ ∃ nq, w' = w.drewN nq := by
  rcases ht with ⟨hm, hz, rfl⟩ | ⟨hm, hz, rfl⟩ | rfl
  · exact nested_zero P B f m c first w hm hn hz hp0 hp1 hcol
  · exact nested_else P B f m c thr w hm hn hz hp0 hp1 hcol
  · refine (nested_none P B f first w hp0 hp1).mono ?_
    rintro e w' ⟨rfl, hw⟩
    exact ⟨0, rfl, ⟨by omega, fun j h => absurd h (by omega), fun h => absurd h (by omega)⟩, hw⟩
end Go.Proofs.Ybulkbzqc.Nested
