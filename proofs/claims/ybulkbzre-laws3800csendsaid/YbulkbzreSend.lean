/- slices.Clone at []order, and (*floodGeneral).send, by their contracts. -/
import Derived.Test.YbulkbzreRows
import Derived.WalkKit
import Derived.ProofKit
import Derived.BigQuiet
import Derived.Laws.Cover3
import Derived.Test.YbulkbzreParts
namespace Go.Proofs.Ybulkbzre.Send
open Go.RowKit Go.Proofs.Ybulkbzre.Parts

theorem info26 : (Yba.prog.info? 26).map (fun i => (i.zero, i.size, i.bytes)) = some (some (.int .i64 0), 1, 8) := by kernel_rfl
theorem info33 : (Yba.prog.info? 33).map (fun i => (i.zero, i.size, i.bytes)) = some (some (.agg #[.int .i64 0, .slice none 0 0]), 2, 32) := by kernel_rfl

theorem eql_nil (w : World) (a : Addr) (l c : Nat) : (binOp .eql 24 (.slice (some a) l c) (.slice none 0 0)).run Yba.prog w = .ok (.bool false) w := by
  simp only [binOp]
  simp [run_equal_slice_nil w 24 26 (some a) l c Yba.underlying24]

theorem clone_calls (g m c : Nat) (z : Nat → Int) (w : World) (hm : m ≤ 1024) (hf : Fill w g m m z) :
    Calls Yba.prog 5 #[.slice (some ⟨g, 0, none⟩) m c] w fun e w' => ∃ ao cap, e = .returned (.slice ao m cap) ∧ Orders w' w.heap.size ao m cap z ∧ Below w.heap.size w w' := by
  obtain ⟨i26, hi, hz0, hz1, hz2⟩ := info_parts info26
  have he := eql_nil w ⟨g, 0, none⟩ m c
  have HF := hid hf
  clear hf
  have HO : Hid ((w.alloc (.cells #[] 26)).ownsRow w.heap.size 26 1 (.slice (some ⟨w.heap.size, 0, none⟩) 0 0) 0 []) := World.ownsRow_made w #[] 0 (Nat.le_refl _) (Nat.zero_le _) (by simp)
  have HN : Hid (∀ j u, (nums m z)[j]? = some u → (w.alloc (.cells #[] 26)).cell? ((⟨g, 0, none⟩ : Addr).add j) = some u) := by
    intro j u hu
    have hj : j < m := by have := (List.getElem?_eq_some_iff.1 hu).1; rwa [nums_length] at this
    rw [nums_at m z j hj] at hu
    obtain rfl := Option.some.inj hu
    obtain ⟨cur, h1, _, h3⟩ := HF.out
    rw [Addr.add_lit, Nat.zero_add, World.cell?_of_block (w := w) (a := ⟨g, j, none⟩) (blk_alloc _ (lt_of_block h1))]
    exact h3 j hj
  go_enter Yba.func5, Yba.ntmps5
  go_wp2_with (at_builtin; refine wpList_append_own _ (by rfl) _ _ 24 (by rfl) w.heap.size 26 i26 _ 1 8 Yba.underlying24 hi hz0 hz1 hz2 rfl (by omega) _ 0 [] (by rfl) (by exact HO.out) ⟨g, 0, none⟩ m c (nums m z) (by rfl) (by rw [nums_length]; omega) (by exact HN.out) (nums_one m z) (by unfold maxLen; omega) (by omega) (by simp) ?_)
  intro v' w1 hown hgrow _
  obtain ⟨ao, cap, rfl, ho⟩ := Orders.of (m := m) (z := z) (by simpa using hown)
  have HOr := hid ho
  have HB : Hid (Below w.heap.size w w1) := ((Below.refl _ _).alloc (Nat.le_refl _) (.cells #[] 26)).grown hgrow (by simp) (fun k hk => by simp [Value.ownBlock] at hk; omega)
  clear hown hgrow ho
  go_wp2
  go_ret
  exact ⟨ao, cap, rfl, HOr.out, HB.out⟩

set_option maxRecDepth 100000 in
set_option maxHeartbeats 1600000 in
theorem send_calls (F g m n : Nat) (id : Int) (z : Nat → Int) (rnd : Int) (w : World) (hm : m ≤ 1024) (hn0 : 0 < n) (hn : n ≤ 40) (hf : Fill w g m m z)
    (hF : w.heap[F]? = some (.cells #[.int .i64 id, .int .i64 (n : Int), .int .i64 3, .slice (some ⟨g, 0, none⟩) m m, .slice none 0 0] 29 (0, 0))) :
    Calls Yba.prog 4 #[.pointer (some ⟨F, 0, none⟩), .int .i64 rnd] w fun e w' => ∃ v ao cap B, e = .returned v ∧ w'.ownsRow B 33 2 v (cnt id n) (msgs id (.slice ao m cap) (cnt id n)) ∧ Orders w' w.heap.size ao m cap z ∧ (0 < m → ∃ h, ao = some ⟨h, 0, none⟩ ∧ h < B) ∧ w.heap.size ≤ B ∧ Below w.heap.size w w' := by
  obtain ⟨i33, hi, hz0, hz1, hz2⟩ := info_parts info33
  have c0 : w.cell? ⟨F, 0, none⟩ = some (.int .i64 id) := blk_cell hF 0
  have c1 : w.cell? ⟨F, 1, none⟩ = some (.int .i64 (n : Int)) := blk_cell hF 1
  have c3 : w.cell? ⟨F, 3, none⟩ = some (.slice (some ⟨g, 0, none⟩) m m) := blk_cell hF 3
  have hFlt := lt_of_block hF
  have HF := hid hf
  clear hf hF
  go_enter Yba.func4, Yba.ntmps4
  go_wp2_with fail
  refine (clone_calls g m m z w hm HF.out).mono ?_
  rintro e w1 ⟨ao, cap, rfl, ho, hb⟩
  have d1 : w1.cell? ⟨F, 1, none⟩ = some (.int .i64 (n : Int)) := (hb.cell (p := ⟨F, 1, none⟩) hFlt).trans c1
  have d0 : w1.cell? ⟨F, 0, none⟩ = some (.int .i64 id) := (hb.cell (p := ⟨F, 0, none⟩) hFlt).trans c0
  have hF1 : F < w1.heap.size := Nat.lt_of_lt_of_le hFlt hb.size
  have HO := hid ho
  have HB := hid hb
  have HD0 := hid d0
  have HD1 := hid d1
  clear ho hb c0 c1 c3 d0
  go_wp2_with (at_make; refine wpList_make_own _ rfl _ _ 30 rfl w1.heap.size 33 i33 _ 2 Yba.underlying30 hi hz0 hz1 _ _ _ (n - 1) rfl rfl (by omega) (by rw [hz2]; omega) (by unfold maxLen; omega) (Nat.le_refl _) ?_)
  intro w2 hown hgrow
  have HW : Hid (w2.ownsRow w1.heap.size 33 2 (.slice (some ⟨w1.heap.size, 0, none⟩) 0 (n - 1)) (cnt id 0) (msgs id (.slice ao m cap) (cnt id 0))) := by rw [cnt_zero]; exact hown
  have hB2 : Below w1.heap.size w1 w2 := (Below.refl _ _).grown hgrow (Nat.le_refl _) (fun k h => by cases h)
  have d1' : w2.cell? ⟨F, 1, none⟩ = some (.int .i64 (n : Int)) := (hB2.cell (p := ⟨F, 1, none⟩) hF1).trans HD1.out
  have HB2 := hid hB2
  clear hown hgrow d1 hB2
  go_wp2
  go_loopw [6, 23] (fun o i wr => ∃ t : Nat, t ≤ n ∧ i = .int .i64 t ∧ wr.ownsRow w1.heap.size 33 2 o (cnt id t) (msgs id (.slice ao m cap) (cnt id t)) ∧ Below w1.heap.size w1 wr) (fun _ i _ => n - (intOf i).toNat)
  case atStart => exact ⟨0, Nat.zero_le _, rfl, HW.out, HB2.out⟩
  case round =>
    obtain ⟨t, ht, rfl, hwr, hbr⟩ := hrel
    have e0 : wr.cell? ⟨F, 0, none⟩ = some (.int .i64 id) := (hbr.cell (p := ⟨F, 0, none⟩) hF1).trans HD0.out
    have HWR := hid hwr
    have HBR := hid hbr
    clear hwr hbr d1' HW HB2
    by_cases hlt : t < n
    · by_cases hti : (t : Int) = id
      · have hne : ((t : Int) != id) = false := by simp [hti]
        have hs := cnt_skip hti
        have HW' : Hid (wr.ownsRow w1.heap.size 33 2 u6 (cnt id (t + 1)) (msgs id (.slice ao m cap) (cnt id (t + 1)))) := by rw [hs]; exact HWR.out
        clear hs hti
        go_wp2
        go_roundw
        case rel => exact ⟨t + 1, by omega, by go_num, HW'.out, HBR.out⟩
        case measure => simp [intOf]; omega
      · have hne : ((t : Int) != id) = true := by simp [hti]
        have hcl := cnt_le id t
        have HS := hid (cnt_step hti)
        have HT := hid (dest_cnt hti)
        clear hti
        go_wp2_with (at_builtin; refine wpList_append_own _ (by rfl) _ _ 30 (by rfl) w1.heap.size 33 i33 _ 2 32 Yba.underlying30 hi hz0 hz1 hz2 rfl (by omega) _ (cnt id t) _ (by rfl) (by exact HWR.out.alloc _) ⟨wr.heap.size, 0, none⟩ 1 1 [.int .i64 (t : Int), .slice ao m cap] (by rfl) (by rfl) (World.news_of_block (cs := #[.int .i64 (t : Int), .slice ao m cap]) (t := 33) (fr := (0, 0)) (heap_alloc_new wr _)) (by simp [Value.oneCell']) (by unfold maxLen; omega) (by omega) (by have := HBR.out.size; simp; omega) ?_)
        intro v' w3 hown hgrow _
        have HW3 : Hid (w3.ownsRow w1.heap.size 33 2 v' (cnt id (t + 1)) (msgs id (.slice ao m cap) (cnt id (t + 1)))) := by
          rw [HS.out, msgs, HT.out]
          exact hown
        have HB3 : Hid (Below w1.heap.size w1 w3) := (HBR.out.alloc HBR.out.size _).grown hgrow (by have := HBR.out.size; simp; omega) (fun k hk => (HWR.out.lt k hk).1)
        clear hown hgrow
        go_wp2
        go_roundw
        case rel => exact ⟨t + 1, by omega, by go_num, HW3.out, HB3.out⟩
        case measure => simp [intOf]; omega
    · have htn : n = t := by omega
      subst htn
      go_wp2
      go_ret
      refine ⟨_, ao, cap, w1.heap.size, rfl, HWR.out, HO.out.kept HBR.out (Nat.le_refl _), fun h => ?_, HB.out.size, HB.out.trans (HBR.out.mono HB.out.size)⟩
      obtain ⟨h', e, _, hl⟩ := HO.out.lt h
      exact ⟨h', e, hl⟩
end Go.Proofs.Ybulkbzre.Send
