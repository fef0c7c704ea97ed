/- The walk of LawS3798CExact at a slice of 1 to 1024 numbers. -/
import Derived.Test.YbulkbzqcRows
import Derived.WalkKit
import Derived.ProofKit
import Derived.OpenShut
import Derived.ShutString
import Derived.BigQuiet
import Derived.Test.YbulkbzqcExactParts
import Derived.Test.YbulkbzqcNested
namespace Go.Proofs.Ybulkbzqc.ExactWalk
open Go.ChangeShapes Go.WideShapes Go.ChangeAt Go.RowKit
open Go.Proofs.Ybulkbzqc.Exact Go.Proofs.Ybulkbzqc.Nested Go.Proofs.Ybulkbzqc.Mem

theorem info39 : (Yba.prog.info? 39).map (fun i => (i.zero, i.size, i.bytes)) = some (some (.agg #[.string ⟨#[]⟩, .int .i64 0, .bool false]), 3, 32) := by kernel_rfl

set_option maxRecDepth 100000 in
set_option maxHeartbeats 1000000 in
theorem walk_some (b off n cap : Nat) (z : Nat → Int) (q f : Nat) (a2 : Int) (a3 : Int) (a4 : Bool) (w : World)
   (hn0 : 0 < n) (hn : n ≤ 1024) (hf : (q : Int) % ((n : Int) + 1) = (f : Int)) (hq : q ≤ 65535) (hfn : f ≤ n)
   (hcell : ∀ j, j < n → w.cell? ⟨b, off + j, none⟩ = some (.int .i64 (z j))) :
    Calls Yba.prog 5 #[.slice (some ⟨b, off, none⟩) n cap, .int .u16 q, .int .i64 a2, .int .i64 a3, .bool a4] w fun e w' => e = .returned (.bool true) ∧ Below w.heap.size w w' := by
  have hbB : b < w.heap.size := lt_of_cell (hcell 0 hn0)
  obtain ⟨i39, hi, hz0, hz1, hz2⟩ := info_parts info39
  have HC : Hid (∀ j, j < n → w.cell? ⟨b, off + j, none⟩ = some (.int .i64 (z j))) := hcell
  clear hcell
  go_enter Yba.func5, Yba.ntmps5
  go_wp2_with (at_make; refine wpList_make_full _ rfl _ _ 37 rfl w.heap.size 39 i39 _ 3 Yba.underlying37 hi hz0 hz1 _ _ _ _ n rfl rfl rfl rfl (by rw [hz2]; omega) (by unfold maxLen; omega) (Nat.le_refl _) ?_)
  intro w1 hown hgrow
  have hF : Fill w1 w.heap.size n 0 z := Fill.start hown rfl
  have hB : Below w.heap.size w w1 := (Below.refl _ _).grown hgrow (Nat.le_refl _) (fun k h => by cases h)
  clear hown hgrow hz0 hz1 hz2 hi i39
  go_wp2
  go_loopw [14] (fun i wr => ∃ k : Nat, k ≤ n ∧ i = .int .i64 k ∧ Fill wr w.heap.size n k z ∧ Below w.heap.size w wr) (fun i _ => n - (intOf i).toNat)
  case atStart => exact ⟨0, Nat.zero_le _, rfl, hF, hB⟩
  case round =>
    obtain ⟨k, hk, rfl, hFr, hBr⟩ := hrel
    by_cases hlt : k < n
    · have hck : wr.cell? ⟨b, off + k, none⟩ = some (.int .i64 (z k)) := (hBr.cell (p := ⟨b, off + k, none⟩) hbB).trans (HC.out k hlt)
      obtain ⟨v1, hv1⟩ := hFr.there (o := k * 3) (by omega)
      obtain ⟨v2, hv2⟩ := hFr.there (o := k * 3 + 1) (by omega)
      obtain ⟨v3, hv3⟩ := hFr.there (o := k * 3 + 2) (by omega)
      have hz1 := hFr.free (k * 3)
      have hz2 := hFr.free (k * 3 + 1)
      have hz3 := hFr.free (k * 3 + 2)
      have hF' := hFr.step hlt
      have hB' : Below w.heap.size w _ := ((hBr.setCell (p := ⟨w.heap.size, k * 3, none⟩) (Nat.le_refl _) (.string ⟨#[35]⟩)).setCell (p := ⟨w.heap.size, k * 3 + 1, none⟩) (Nat.le_refl _) (.int .i64 (z k))).setCell (p := ⟨w.heap.size, k * 3 + 2, none⟩) (Nat.le_refl _) (.bool ((k : Int) % 2 == 0))
      have HF := hid hF'
      have HB := hid hB'
      clear hF' hB' hFr hBr hF hB
      go_wp2
      go_roundw
      case rel => exact ⟨k + 1, by omega, by go_num, HF.out, HB.out⟩
      case measure => simp [intOf]; omega
    · have hkn : n = k := by omega
      subst hkn
      have hH := hFr.held f a3 a4
      have hBa := hBr.alloc hBr.size (.cells #[.slice (some ⟨w.heap.size, 0, none⟩) n n, .int .i64 f, .int .i64 a3, .bool a4] 42)
      have hcs : ∃ thr, (0 < n - f ∧ (a2 == 0) = true ∧ thr = z f) ∨ (0 < n - f ∧ (a2 == 0) = false ∧ thr = a2) ∨ (n - f = 0 ∧ thr = a2) := by
        by_cases h : 0 < n - f
        · cases h' : (a2 == 0)
          · exact ⟨a2, .inr (.inl ⟨h, rfl, rfl⟩)⟩
          · exact ⟨z f, .inl ⟨h, rfl, rfl⟩⟩
        · exact ⟨a2, .inr (.inr ⟨by omega, rfl⟩)⟩
      obtain ⟨thr, hthr⟩ := hcs
      have HK : Hid (f + (n - f) = n) := by show _ = _; omega
      have HT := hid hthr
      have HH := hid hH
      have HB := hid hBa
      clear hthr hH hBa hF hB hFr hBr hk hlt
      go_wp2_with fail
      refine (nested_any wr.heap.size w.heap.size f (n - f) (fun j => z (f + j)) a2 thr _ (by omega) ?_ (by rw [HK.out]; exact HH.out.1) HH.out.2.1 ?_).mono ?_
      · rcases HT.out with h | h | h
        · exact .inl h
        · exact .inr (.inl h)
        · exact .inr (.inr h.1)
      · intro j hj
        have := (HH.out.2.2.2.2 (f + j) (by omega)).2.1
        rwa [show (f + j) * 3 + 1 = f * 3 + j * 3 + 1 by omega] at this
      · rintro e w2 ⟨r, rfl, hfi, nq, hw2⟩
        have hH2 := Held.drewN HH.out nq
        have hB2 := Below.drewN HB.out nq
        rw [← hw2] at hH2 hB2
        clear hw2 HH HB
        obtain ⟨hp0, hp1, hp2, hp3, hl⟩ := hH2
        have HL := hid hl
        have HB2 := hid hB2
        have HI := hid hfi
        clear hl hB2 hfi
        generalize wr.heap.size = P at *
        rcases HT.out with ⟨hm, he, rfl⟩ | ⟨hm, he, rfl⟩ | ⟨hm, rfl⟩
        · clear HT
          have hzf : w2.cell? ⟨b, off + f, none⟩ = some (.int .i64 (z f)) := (HB2.out.cell (p := ⟨b, off + f, none⟩) hbB).trans (HC.out f (by omega))
          go_wp2
          go_loop [18, 19] (fun d i => ∃ g : Nat, f ≤ g ∧ g ≤ n ∧ i = .int .i64 g ∧ d = .int .i64 ((n : Int) - (f : Int)) ∧ NoneYet (z f) (fun j => z (f + j)) (g - f)) (fun _ i => n - (intOf i).toNat)
          case atStart => exact ⟨f, Nat.le_refl _, hfn, rfl, rfl, by rw [Nat.sub_self]; exact NoneYet.zero _ _⟩
          case round =>
            obtain ⟨g, hfg, hgn, rfl, rfl, hno⟩ := hrel
            have HN := hid hno
            clear hno
            by_cases hlt : g < n
            · have hzg : w2.cell? ⟨b, off + g, none⟩ = some (.int .i64 (z g)) := (HB2.out.cell (p := ⟨b, off + g, none⟩) hbB).trans (HC.out g hlt)
              by_cases hgt : z f < z g
              · have hu := (IsFirst.unique HI.out (NoneYet.hit HN.out (by show _ < z (f + (g - f)); rw [show f + (g - f) = g by omega]; exact hgt) (show g - f < n - f by omega)))
                have hrg : ((r : Int) != (g : Int) - (f : Int)) = false := by simp; omega
                clear hu HN
                go_wp2
                go_loopw [20] (fun i wq => ∃ k : Nat, k ≤ n ∧ i = .int .i64 k ∧ ∃ nq, wq = w2.drewN nq) (fun i _ => n - (intOf i).toNat)
                case atStart => exact ⟨0, Nat.zero_le _, rfl, 0, rfl⟩
                case round =>
                  obtain ⟨k, hk, rfl, nq, rfl⟩ := hrel
                  by_cases hlt : k < n
                  · obtain ⟨hl0, hl1, hl2⟩ := HL.out k hlt
                    have hzk : w2.cell? ⟨b, off + k, none⟩ = some (.int .i64 (z k)) := (HB2.out.cell (p := ⟨b, off + k, none⟩) hbB).trans (HC.out k hlt)
                    go_wp2
                    go_quiet (fail)
                    go_wp2
                    go_roundw
                    case rel => exact ⟨k + 1, by omega, by go_num, _, rfl⟩
                    case measure => simp [intOf]; omega
                  · go_wp2
                    go_ret
                    exact ⟨rfl, Below.drewN HB2.out _⟩
              · have hno' := NoneYet.succ HN.out (by show z (f + (g - f)) ≤ _; rw [show f + (g - f) = g by omega]; omega)
                rw [show g - f + 1 = g + 1 - f by omega] at hno'
                have HN' := hid hno'
                clear hno' HN
                go_wp2
                go_round
                case rel => exact ⟨g + 1, by omega, by omega, by go_num, rfl, HN'.out⟩
                case measure => simp [intOf]; omega
            · have hu := IsFirst.unique HI.out (NoneYet.miss HN.out (show g - f = n - f by omega))
              have hrg : ((r : Int) != (n : Int) - (f : Int)) = false := by simp; omega
              clear hu HN
              go_wp2
              go_loopw [20] (fun i wq => ∃ k : Nat, k ≤ n ∧ i = .int .i64 k ∧ ∃ nq, wq = w2.drewN nq) (fun i _ => n - (intOf i).toNat)
              case atStart => exact ⟨0, Nat.zero_le _, rfl, 0, rfl⟩
              case round =>
                obtain ⟨k, hk, rfl, nq, rfl⟩ := hrel
                by_cases hlt : k < n
                · obtain ⟨hl0, hl1, hl2⟩ := HL.out k hlt
                  have hzk : w2.cell? ⟨b, off + k, none⟩ = some (.int .i64 (z k)) := (HB2.out.cell (p := ⟨b, off + k, none⟩) hbB).trans (HC.out k hlt)
                  go_wp2
                  go_quiet (fail)
                  go_wp2
                  go_roundw
                  case rel => exact ⟨k + 1, by omega, by go_num, _, rfl⟩
                  case measure => simp [intOf]; omega
                · go_wp2
                  go_ret
                  exact ⟨rfl, Below.drewN HB2.out _⟩
        · clear HT
          go_wp2
          go_loop [18, 19] (fun d i => ∃ g : Nat, f ≤ g ∧ g ≤ n ∧ i = .int .i64 g ∧ d = .int .i64 ((n : Int) - (f : Int)) ∧ NoneYet thr (fun j => z (f + j)) (g - f)) (fun _ i => n - (intOf i).toNat)
          case atStart => exact ⟨f, Nat.le_refl _, hfn, rfl, rfl, by rw [Nat.sub_self]; exact NoneYet.zero _ _⟩
          case round =>
            obtain ⟨g, hfg, hgn, rfl, rfl, hno⟩ := hrel
            have HN := hid hno
            clear hno
            by_cases hlt : g < n
            · have hzg : w2.cell? ⟨b, off + g, none⟩ = some (.int .i64 (z g)) := (HB2.out.cell (p := ⟨b, off + g, none⟩) hbB).trans (HC.out g hlt)
              by_cases hgt : thr < z g
              · have hu := (IsFirst.unique HI.out (NoneYet.hit HN.out (by show _ < z (f + (g - f)); rw [show f + (g - f) = g by omega]; exact hgt) (show g - f < n - f by omega)))
                have hrg : ((r : Int) != (g : Int) - (f : Int)) = false := by simp; omega
                clear hu HN
                go_wp2
                go_loopw [20] (fun i wq => ∃ k : Nat, k ≤ n ∧ i = .int .i64 k ∧ ∃ nq, wq = w2.drewN nq) (fun i _ => n - (intOf i).toNat)
                case atStart => exact ⟨0, Nat.zero_le _, rfl, 0, rfl⟩
                case round =>
                  obtain ⟨k, hk, rfl, nq, rfl⟩ := hrel
                  by_cases hlt : k < n
                  · obtain ⟨hl0, hl1, hl2⟩ := HL.out k hlt
                    have hzk : w2.cell? ⟨b, off + k, none⟩ = some (.int .i64 (z k)) := (HB2.out.cell (p := ⟨b, off + k, none⟩) hbB).trans (HC.out k hlt)
                    go_wp2
                    go_quiet (fail)
                    go_wp2
                    go_roundw
                    case rel => exact ⟨k + 1, by omega, by go_num, _, rfl⟩
                    case measure => simp [intOf]; omega
                  · go_wp2
                    go_ret
                    exact ⟨rfl, Below.drewN HB2.out _⟩
              · have hno' := NoneYet.succ HN.out (by show z (f + (g - f)) ≤ _; rw [show f + (g - f) = g by omega]; omega)
                rw [show g - f + 1 = g + 1 - f by omega] at hno'
                have HN' := hid hno'
                clear hno' HN
                go_wp2
                go_round
                case rel => exact ⟨g + 1, by omega, by omega, by go_num, rfl, HN'.out⟩
                case measure => simp [intOf]; omega
            · have hu := IsFirst.unique HI.out (NoneYet.miss HN.out (show g - f = n - f by omega))
              have hrg : ((r : Int) != (n : Int) - (f : Int)) = false := by simp; omega
              clear hu HN
              go_wp2
              go_loopw [20] (fun i wq => ∃ k : Nat, k ≤ n ∧ i = .int .i64 k ∧ ∃ nq, wq = w2.drewN nq) (fun i _ => n - (intOf i).toNat)
              case atStart => exact ⟨0, Nat.zero_le _, rfl, 0, rfl⟩
              case round =>
                obtain ⟨k, hk, rfl, nq, rfl⟩ := hrel
                by_cases hlt : k < n
                · obtain ⟨hl0, hl1, hl2⟩ := HL.out k hlt
                  have hzk : w2.cell? ⟨b, off + k, none⟩ = some (.int .i64 (z k)) := (HB2.out.cell (p := ⟨b, off + k, none⟩) hbB).trans (HC.out k hlt)
                  go_wp2
                  go_quiet (fail)
                  go_wp2
                  go_roundw
                  case rel => exact ⟨k + 1, by omega, by go_num, _, rfl⟩
                  case measure => simp [intOf]; omega
                · go_wp2
                  go_ret
                  exact ⟨rfl, Below.drewN HB2.out _⟩
        · clear HT
          have hnf : ¬ f < n := by omega
          cases he : (thr == 0)
          all_goals
            go_wp2
            go_loop [18, 19] (fun d i => ∃ g : Nat, f ≤ g ∧ g ≤ n ∧ i = .int .i64 g ∧ d = .int .i64 ((n : Int) - (f : Int)) ∧ NoneYet thr (fun j => z (f + j)) (g - f)) (fun _ i => n - (intOf i).toNat)
            case atStart => exact ⟨f, Nat.le_refl _, hfn, rfl, rfl, by rw [Nat.sub_self]; exact NoneYet.zero _ _⟩
            case round =>
              obtain ⟨g, hfg, hgn, rfl, rfl, hno⟩ := hrel
              have HN := hid hno
              clear hno
              by_cases hlt : g < n
              · exact absurd hlt (by omega)
              · have hu := IsFirst.unique HI.out (NoneYet.miss HN.out (show g - f = n - f by omega))
                have hrg : ((r : Int) != (n : Int) - (f : Int)) = false := by simp; omega
                clear hu HN
                go_wp2
                go_loopw [20] (fun i wq => ∃ k : Nat, k ≤ n ∧ i = .int .i64 k ∧ ∃ nq, wq = w2.drewN nq) (fun i _ => n - (intOf i).toNat)
                case atStart => exact ⟨0, Nat.zero_le _, rfl, 0, rfl⟩
                case round =>
                  obtain ⟨k, hk, rfl, nq, rfl⟩ := hrel
                  by_cases hlt : k < n
                  · obtain ⟨hl0, hl1, hl2⟩ := HL.out k hlt
                    have hzk : w2.cell? ⟨b, off + k, none⟩ = some (.int .i64 (z k)) := (HB2.out.cell (p := ⟨b, off + k, none⟩) hbB).trans (HC.out k hlt)
                    go_wp2
                    go_quiet (fail)
                    go_wp2
                    go_roundw
                    case rel => exact ⟨k + 1, by omega, by go_num, _, rfl⟩
                    case measure => simp [intOf]; omega
                  · go_wp2
                    go_ret
                    exact ⟨rfl, Below.drewN HB2.out _⟩
end Go.Proofs.Ybulkbzqc.ExactWalk
