/- The walk of LawS3800CSend. -/
import Derived.Test.YbulkbzreSend
import Derived.Test.YbulkbzreSent
import Derived.OpenShut
namespace Go.Proofs.Ybulkbzre.Walk
open Go.RowKit Go.Proofs.Ybulkbzre.Parts Go.Proofs.Ybulkbzre.Send Go.Proofs.Ybulkbzre.Sent

/-- The m numbers that came in. -/
def Came (w : World) (a : Option Addr) (m : Nat) (z : Nat → Int) : Prop := 0 < m → ∃ b off, a = some ⟨b, off, none⟩ ∧ b < w.heap.size ∧ ∀ j, j < m → w.cell? ⟨b, off + j, none⟩ = some (.int .i16 (z j))

set_option maxRecDepth 100000 in
set_option maxHeartbeats 3200000 in
theorem walk_some (id : Int) (gen : Nat) (a2 : Option Addr) (m cap2 : Nat) (z : Nat → Int) (rnd : Int) (w : World) (hi1 : -128 ≤ id) (hi2 : id ≤ 127) (hg : gen ≤ 255) (hm : m ≤ 1024) (hA : Came w a2 m z) (hz : ∀ j, -32768 ≤ z j ∧ z j ≤ 32767) :
    Calls Yba.prog 3 #[.int .i8 id, .int .u8 gen, .slice a2 m cap2, .int .i64 rnd] w fun e w' => e = .returned (.bool true) ∧ Below w.heap.size w w' := by
  obtain ⟨q, hq, hq1⟩ : ∃ q : Nat, (gen : Int) % 40 = (q : Int) ∧ q < 40 := ⟨gen % 40, by omega, by omega⟩
  obtain ⟨n, hn⟩ : ∃ n : Nat, n = q + 1 := ⟨_, rfl⟩
  have hn1 : (q : Int) + 1 = (n : Int) := by omega
  have hn2 : n ≤ 40 := by omega
  have hn3 : 0 < n := by omega
  clear hn
  obtain ⟨i26, hi, hz0, hz1, hz2⟩ := info_parts info26
  have HA := hid hA
  have HZ := hid hz
  clear hA hz
  go_enter Yba.func3, Yba.ntmps3
  go_wp2_with (at_make; refine wpList_make_full _ rfl _ _ 24 rfl w.heap.size 26 i26 _ 1 Yba.underlying24 hi hz0 hz1 _ _ _ _ m rfl rfl rfl rfl (by rw [hz2]; omega) (by unfold maxLen; omega) (Nat.le_refl _) ?_)
  intro w1 hown hgrow
  have hF : Fill w1 w.heap.size m 0 z := Fill.start hown rfl
  have hB : Below w.heap.size w w1 := (Below.refl _ _).grown hgrow (Nat.le_refl _) (fun k h => by cases h)
  have HF := hid hF
  have HB := hid hB
  clear hown hgrow hz0 hz1 hz2 hi i26 hF hB
  go_wp2
  go_loopw [33] (fun i wr => ∃ k : Nat, k ≤ m ∧ i = .int .i64 k ∧ Fill wr w.heap.size m k z ∧ Below w.heap.size w wr) (fun i _ => m - (intOf i).toNat)
  case atStart => exact ⟨0, Nat.zero_le _, rfl, HF.out, HB.out⟩
  case round =>
    obtain ⟨k, hk, rfl, hFr, hBr⟩ := hrel
    clear HF HB
    by_cases hlt : k < m
    · obtain ⟨b, off, rfl, hbB, hc⟩ := HA.out (by omega)
      have hck : wr.cell? ⟨b, off + k, none⟩ = some (.int .i16 (z k)) := (hBr.cell (p := ⟨b, off + k, none⟩) hbB).trans (hc k hlt)
      have hzk1 := (HZ.out k).1
      have hzk2 := (HZ.out k).2
      obtain ⟨v1, hv1⟩ := hFr.there hlt
      have hf1 := hFr.free k
      have HF' := hid (hFr.step hlt)
      have HB' : Hid (Below w.heap.size w _) := hBr.setCell (p := ⟨w.heap.size, k, none⟩) (Nat.le_refl _) (.int .i64 (z k))
      clear hFr hBr hc
      go_wp2
      go_roundw
      case rel => exact ⟨k + 1, by omega, by go_num, HF'.out, HB'.out⟩
      case measure => simp [intOf]; omega
    · have hkn : m = k := by omega
      subst hkn
      have HF := hid hFr
      have HB := hid hBr
      clear hFr hBr hk hlt
      go_wp2_with fail
      refine (send_calls wr.heap.size w.heap.size m n id z rnd _ hm hn3 hn2 (HF.out.kept (blk_alloc _ HF.out.lt)) (blk_new wr _)).mono ?_
      rintro e w2 ⟨v, ao, cap, B, rfl, hown, hor, hao, hBB, hbel⟩
      obtain ⟨vo, vc, rfl, hvc, hC, hO⟩ := core_of HF.out HB.out hown hor hao hBB hbel
      clear hown hor hao hBB hbel HF HB
      have hFlt := hC.2.2.2.1
      generalize wr.heap.size = F at *
      have hql := cnt_le id n
      obtain ⟨Q, hQ⟩ : ∃ Q, Q = cnt id n := ⟨_, rfl⟩
      rw [← hQ] at hC hvc hql ⊢
      have HQ := hid hQ
      have HC := hid hC
      have HO := hid hO
      have HS : Hid (0 = cnt id 0) := (cnt_zero id).symm
      clear hQ hC hO
      go_wp2
      go_loopw [15, 16] (fun kk tt wq => ∃ t : Nat, t ≤ n ∧ tt = .int .i64 t ∧ kk = .int .i64 (cnt id t : Nat) ∧ Core w wq F w.heap.size id n m z vo Q ao cap ∧ Orders wq (F + 1) ao m cap z) (fun _ tt _ => n - (intOf tt).toNat)
      case atStart => exact ⟨0, Nat.zero_le _, rfl, by rw [← HS.out]; rfl, HC.out, HO.out⟩
      case round =>
        obtain ⟨t, ht, rfl, rfl, hC, hO⟩ := hrel
        clear HC HO HS
        have HC := hid hC
        have HO := hid hO
        clear hC hO
        by_cases hlt : t < n
        · by_cases hti : (t : Int) = id
          · have hb : ((t : Int) == id) = true := by simp [hti]
            have HS := hid (cnt_skip hti)
            clear hti
            go_wp2
            go_roundw
            case rel => exact ⟨t + 1, by omega, by go_num, by rw [HS.out], HC.out, HO.out⟩
            case measure => simp [intOf]; omega
          · have hb : ((t : Int) == id) = false := by simp [hti]
            have HS := hid (cnt_step hti)
            have hcl : cnt id t < Q := by rw [HQ.out]; exact cnt_lt hlt hti
            have HD := hid (dest_cnt hti)
            clear hti
            obtain ⟨go, cur, rfl, _, _, _, hcells⟩ := HC.out.2.2.2.2.2 (by omega)
            obtain ⟨e0, e1⟩ := hcells (cnt id t) hcl
            rw [HD.out] at e0
            clear hcells
            generalize cnt id t = K at *
            have HC' := hid (HC.out.alloc (.cells #[.int .i64 (t : Int), .slice ao m cap] 33))
            have HO' := hid (HO.out.kept ((Below.refl wr.heap.size wr).alloc (Nat.le_refl _) (.cells #[.int .i64 (t : Int), .slice ao m cap] 33)) (Nat.le_refl _))
            have HM : Hid ((wr.alloc (.cells #[.int .i64 (t : Int), .slice ao m cap] 33)).cell? ⟨wr.heap.size, 1, none⟩ = some (.slice ao m cap)) := blk_cell (blk_new wr _) 1
            clear HC HO
            go_wp2
            generalize wr.heap.size = Mb at *
            go_loopw [18] (fun i wi => ∃ j : Nat, j ≤ m ∧ i = .int .i64 j ∧ wi.cell? ⟨Mb, 1, none⟩ = some (.slice ao m cap) ∧ Core w wi F w.heap.size id n m z (some ⟨go, 0, none⟩) Q ao cap ∧ Orders wi (F + 1) ao m cap z) (fun i _ => m - (intOf i).toNat)
            case atStart => exact ⟨0, Nat.zero_le _, rfl, HM.out, HC'.out, HO'.out⟩
            case round =>
              obtain ⟨j, hj, rfl, hMc, hC, hO⟩ := hrel
              clear HM HC' HO' e0 e1
              have HC := hid hC
              have HO := hid hO
              clear hC hO
              by_cases hjm : j < m
              · obtain ⟨g, gcur, rfl, _, _, _, hgc⟩ := HO.out.2.2 (by omega)
                obtain ⟨b, off, rfl, hbB, hc⟩ := HA.out (by omega)
                have hgj := hgc j hjm
                have haj : wr.cell? ⟨b, off + j, none⟩ = some (.int .i16 (z j)) := (HC.out.2.2.2.2.1.cell (p := ⟨b, off + j, none⟩) hbB).trans (hc j hjm)
                have hzk1 := (HZ.out j).1
                have hzk2 := (HZ.out j).2
                clear hgc hc
                go_wp2
                go_quiet (fail)
                go_wp2
                go_roundw
                case rel => exact ⟨j + 1, by omega, by go_num, hMc, HC.out.drewN _, HO.out.kept (Below.drewN (Below.refl wr.heap.size wr) _) (Nat.le_refl _)⟩
                case measure => simp [intOf]; omega
              · go_wp2
                go_roundw
                case rel => exact ⟨t + 1, by omega, by go_num, by rw [HS.out]; go_num, HC.out, HO.out⟩
                case measure => simp [intOf]; omega
        · have htn : n = t := by omega
          subst htn
          have hkq : (((cnt id n : Nat) : Int) != (Q : Int)) = false := by simp [HQ.out]
          have f0 : wr.cell? ⟨F, 0, none⟩ = some (.int .i64 id) := blk_cell HC.out.1 0
          have f1 : wr.cell? ⟨F, 1, none⟩ = some (.int .i64 (n : Int)) := blk_cell HC.out.1 1
          have f2 : wr.cell? ⟨F, 2, none⟩ = some (.int .i64 3) := blk_cell HC.out.1 2
          have f3 : wr.cell? ⟨F, 3, none⟩ = some (.slice (some ⟨w.heap.size, 0, none⟩) m m) := blk_cell HC.out.1 3
          generalize cnt id n = K at *
          go_wp2
          go_loopw [19] (fun i wi => ∃ j : Nat, j ≤ m ∧ i = .int .i64 j ∧ Core w wi F w.heap.size id n m z vo Q ao cap ∧ Orders wi (F + 1) ao m cap z) (fun i _ => m - (intOf i).toNat)
          case atStart => exact ⟨0, Nat.zero_le _, rfl, HC.out, HO.out⟩
          case round =>
            obtain ⟨j, hj, rfl, hC, hO⟩ := hrel
            clear HC HO f0 f1 f2 f3 hkq
            have HC := hid hC
            have HO := hid hO
            clear hC hO
            by_cases hjm : j < m
            · obtain ⟨b, off, rfl, hbB, hc⟩ := HA.out (by omega)
              have haj : wr.cell? ⟨b, off + j, none⟩ = some (.int .i16 (z j)) := (HC.out.2.2.2.2.1.cell (p := ⟨b, off + j, none⟩) hbB).trans (hc j hjm)
              obtain ⟨_, _, _, hGc⟩ := HC.out.2.1
              have hGj := hGc j hjm
              have f3 : wr.cell? ⟨F, 3, none⟩ = some (.slice (some ⟨w.heap.size, 0, none⟩) m m) := blk_cell HC.out.1 3
              have hzk1 := (HZ.out j).1
              have hzk2 := (HZ.out j).2
              clear hGc hc
              go_wp2
              go_quiet (fail)
              go_wp2
              go_roundw
              case rel => exact ⟨j + 1, by omega, by go_num, HC.out.drewN _, HO.out.kept (Below.drewN (Below.refl wr.heap.size wr) _) (Nat.le_refl _)⟩
              case measure => simp [intOf]; omega
            · have HSh := hid (Shared.of HO.out)
              clear HO
              go_wp2
              go_loopw [20] (fun i wi => ∃ j : Nat, j ≤ Q ∧ i = .int .i64 j ∧ Core w wi F w.heap.size id n m z vo Q ao cap ∧ Shared wi F ao m) (fun i _ => Q - (intOf i).toNat)
              case atStart => exact ⟨0, Nat.zero_le _, rfl, HC.out, HSh.out⟩
              case round =>
                obtain ⟨j, hj, rfl, hC, hSh⟩ := hrel
                clear HC HSh
                have HC := hid hC
                have HSh := hid hSh
                clear hC hSh hjm
                by_cases hjq : j < Q
                · obtain ⟨go, cur, rfl, hgo1, hgo2, _, hcells⟩ := HC.out.2.2.2.2.2 (by omega)
                  have e1 := (hcells j hjq).2
                  clear hcells
                  by_cases hm0 : 0 < m
                  · obtain ⟨g, x, rfl, hFg, hgx, hgf⟩ := HSh.out hm0
                    obtain ⟨b, off, rfl, hbB, hc⟩ := HA.out hm0
                    have ha0 : wr.cell? ⟨b, off, none⟩ = some (.int .i16 (z 0)) := (HC.out.2.2.2.2.1.cell (p := ⟨b, off, none⟩) hbB).trans (by simpa using hc 0 hm0)
                    obtain ⟨_, _, _, hGc⟩ := HC.out.2.1
                    have hG0 := hGc 0 hm0
                    have f3 : wr.cell? ⟨F, 3, none⟩ = some (.slice (some ⟨w.heap.size, 0, none⟩) m m) := blk_cell HC.out.1 3
                    have hzk1 := (HZ.out 0).1
                    have hzk2 := (HZ.out 0).2
                    have hgg : go ≠ g := by
                      intro e
                      subst e
                      exact hgo2 hm0 rfl
                    have hGF := HC.out.2.2.1
                    have n1 : F ≠ g := by omega
                    have n2 : w.heap.size ≠ g := by omega
                    have n3 : b ≠ g := by omega
                    have t1 : ∀ y, (wr.setCell ⟨g, 0, none⟩ y).cell? ⟨F, 3, none⟩ = some (.slice (some ⟨w.heap.size, 0, none⟩) m m) := fun y => (World.cell?_of_block (w := wr) (a := ⟨F, 3, none⟩) (blk_set_other y n1)).trans f3
                    have t2 : ∀ y, (wr.setCell ⟨g, 0, none⟩ y).cell? ⟨w.heap.size, 0, none⟩ = some (.int .i64 (z 0)) := fun y => (World.cell?_of_block (w := wr) (a := ⟨w.heap.size, 0, none⟩) (blk_set_other y n2)).trans hG0
                    have t3 : ∀ y, (wr.setCell ⟨g, 0, none⟩ y).cell? ⟨b, off, none⟩ = some (.int .i16 (z 0)) := fun y => (World.cell?_of_block (w := wr) (a := ⟨b, off, none⟩) (blk_set_other y n3)).trans ha0
                    have t4 : ∀ y, (wr.setCell ⟨g, 0, none⟩ y).cell? ⟨go, j * 2 + 1, none⟩ = some (.slice (some ⟨g, 0, none⟩) m cap) := fun y => (World.cell?_of_block (w := wr) (a := ⟨go, j * 2 + 1, none⟩) (blk_set_other y hgg)).trans e1
                    clear hGc hc hgo2 f3 hG0 ha0
                    go_wp2
                    go_quiet (fail)
                    go_wp2
                    go_roundw
                    case rel => exact ⟨j + 1, by omega, by go_num, ((HC.out.setCell rfl hm0 hFg _).drewN nq).setCell rfl hm0 hFg _, Shared.again (Shared.drewN (HSh.out.again hm0 _) nq) hm0 _⟩
                    case measure => simp [intOf]; omega
                  · go_wp2
                    go_roundw
                    case rel => exact ⟨j + 1, by omega, by go_num, HC.out, HSh.out⟩
                    case measure => simp [intOf]; omega
                · go_wp2
                  go_ret
                  exact ⟨rfl, HC.out.2.2.2.2.1⟩

set_option maxRecDepth 100000 in
/-- More than 1024 orders: true at once. -/
theorem walk_great (id gen : Int) (a2 : Option Addr) (m cap2 : Nat) (rnd : Int) (w : World) (hm : 1024 < m) (hM : m ≤ maxLen) :
    Calls Yba.prog 3 #[.int .i8 id, .int .u8 gen, .slice a2 m cap2, .int .i64 rnd] w fun e w' => e = .returned (.bool true) ∧ Below w.heap.size w w' := by
  unfold maxLen at hM
  go_enter Yba.func3, Yba.ntmps3
  go_wp2
  go_ret
  exact ⟨rfl, Below.refl _ _⟩
end Go.Proofs.Ybulkbzre.Walk
