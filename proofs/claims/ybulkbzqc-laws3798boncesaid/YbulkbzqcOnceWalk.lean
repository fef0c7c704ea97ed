/- The walk of LawS3798BOnce. -/
import Derived.Test.YbulkbzqcDashMore
import Derived.Test.YbulkbzqcArith
import Derived.OpenShut
namespace Go.Proofs.Ybulkbzqc.Once
open Go.RowKit Go.Proofs.Ybulkbzqc.Mem Go.Proofs.Ybulkbzqc.Txt Go.Proofs.Ybulkbzqc.Dash Go.Proofs.Ybulkbzqc.Arith

/-- The dashText as the law lays it. -/
theorem start {w : World} {o : Obj} {src pre : ByteArray} {st en cap : Nat} {cp : Bool} (h : Txt (w.drew.alloc o) (.slice (some ⟨w.heap.size, 0, none⟩) pre.size cap) pre.data.toList) :
    Dash ((w.alloc o).alloc (.cells #[.string src, .int .i64 (st : Int), .int .i64 (en : Int), .bool cp, .slice (some ⟨w.heap.size, 0, none⟩) pre.size cap] 28)).drew (w.heap.size + 1) src st en cp (.slice (some ⟨w.heap.size, 0, none⟩) pre.size cap) pre.data.toList ∧
    Below w.heap.size w ((w.alloc o).alloc (.cells #[.string src, .int .i64 (st : Int), .int .i64 (en : Int), .bool cp, .slice (some ⟨w.heap.size, 0, none⟩) pre.size cap] 28)).drew := by
  have hn := blk_new (w.alloc o) (.cells #[.string src, .int .i64 (st : Int), .int .i64 (en : Int), .bool cp, .slice (some ⟨w.heap.size, 0, none⟩) pre.size cap] 28)
  have hs : (w.alloc o).heap.size = w.heap.size + 1 := by simp
  rw [hs] at hn
  refine ⟨⟨hn, ?_, by simp [Value.ownBlock]⟩, (((Below.refl _ _).alloc (Nat.le_refl _) o).alloc (by simp) _).drew⟩
  exact h.kept (w' := ((w.alloc o).alloc (.cells #[.string src, .int .i64 (st : Int), .int .i64 (en : Int), .bool cp, .slice (some ⟨w.heap.size, 0, none⟩) pre.size cap] 28)).drew) (S := fun _ => False) (Chg.alloc (w.drew.alloc o) _ _) (fun _ _ h => h)

theorem join_eq (x y : ByteArray) (l : List UInt8) (h : l = x.data.toList) : (⟨(l ++ y.data.toList).toArray⟩ : ByteArray) = x ++ y := by
  subst h
  apply ByteArray.ext
  simp [ByteArray.data_append]

set_option maxRecDepth 100000 in
set_option maxHeartbeats 1600000 in
theorem walk_some (src : ByteArray) (a b : Int) (pre : ByteArray) (cp : Bool) (s : ByteArray) (w : World) (h1 : src.size ≤ 1024) (h2 : pre.size ≤ 1024) (h3 : s.size ≤ 1024) :
    Calls Yba.prog 4 #[.string src, .int .i64 a, .int .i64 b, .string pre, .bool cp, .string s] w fun e w' => e = .returned (.bool true) ∧ Below w.heap.size w w' := by
  obtain ⟨st, hst, hst1⟩ := rem_at a src.size
  obtain ⟨d, hd, hd1⟩ := rem_upto b src.size st hst1
  obtain ⟨en, hen⟩ : ∃ en, en = st + d := ⟨_, rfl⟩
  have hse : (st : Int) + (d : Int) = (en : Int) := by omega
  have b2 : st ≤ en := by omega
  have b3 : en ≤ src.size := by omega
  clear hen hd1
  obtain ⟨cap, o, hcv, htx⟩ := run_bytes (P := Yba.prog) w 9 26 5 Yba.underlying9 Yba.underlying26 Yba.underlying5 pre (by unfold maxLen; omega)
  have HX := hid htx
  clear htx
  cases cp
  · have hD := start (st := st) (en := en) (cp := false) (src := src) HX.out
    have HD := hid hD
    clear hD
    have e1 : (⟨(text src st en false pre.data.toList ++ s.data.toList).toArray⟩ : ByteArray) = src.extract st en ++ s := join_eq _ s _ rfl
    have hsum : (src.extract st en).size + s.size ≤ 9223372036854775807 := by simp; omega
    go_enter Yba.func4, Yba.ntmps4
    go_wp2_with fail
    refine (addString_calls _ (w.heap.size + 1) src st en false _ pre.data.toList s HD.out.1 b2 b3 h1 h3 (by rw [Array.length_toList]; show pre.size ≤ _; omega)).mono ?_
    rintro e w3 ⟨rfl, v3, hD3, hc3, hl3⟩
    have hB3 : Below w.heap.size w w3 := HD.out.2.trans (hc3.below HD.out.2.size (fun i hi => by rcases hi with rfl | hi <;> simp [Value.ownBlock] at * <;> omega))
    have hst3 := string_calls w3 (w.heap.size + 1) src st en true v3 _ hD3 b2 b3
    have hcv3 := run_string (P := Yba.prog) w3 26 9 5 Yba.underlying26 Yba.underlying5 Yba.underlying9 v3 _ hD3.2.1
    have e2 : (⟨(text src st en true (text src st en false pre.data.toList ++ s.data.toList)).toArray⟩ : ByteArray) = src.extract st en ++ s := e1
    rw [e2] at hst3
    rw [e1] at hcv3
    clear e1 e2 hl3 hc3 HD HX hcv hst hd hse
    have c0 : w3.cell? ⟨w.heap.size + 1, 0, none⟩ = some (.string src) := blk_cell hD3.1 0
    have c3 : w3.cell? ⟨w.heap.size + 1, 3, none⟩ = some (.bool true) := blk_cell hD3.1 3
    have c4 : w3.cell? ⟨w.heap.size + 1, 4, none⟩ = some v3 := blk_cell hD3.1 4
    obtain ⟨ao, cap3, rfl, _, _⟩ := hD3.2.1.form
    have HS := hid hst3
    have HB := hid hB3
    clear hst3 hB3 hD3
    generalize (text src st en false pre.data.toList ++ s.data.toList).length = nn at hcv3 c4
    go_wp2_with fail
    refine HS.out.mono ?_
    rintro e w4 ⟨rfl, nq, rfl⟩
    go_wp2
    go_ret
    exact ⟨rfl, ⟨HB.out.os, HB.out.tape, HB.out.output, HB.out.size, HB.out.block⟩⟩
  · have hD := start (st := st) (en := en) (cp := true) (src := src) HX.out
    have HD := hid hD
    clear hD
    have e1 : (⟨(text src st en true pre.data.toList ++ s.data.toList).toArray⟩ : ByteArray) = pre ++ s := join_eq _ s _ rfl
    have hsum : pre.size + s.size ≤ 9223372036854775807 := by omega
    go_enter Yba.func4, Yba.ntmps4
    go_wp2_with fail
    refine (addString_calls _ (w.heap.size + 1) src st en true _ pre.data.toList s HD.out.1 b2 b3 h1 h3 (by rw [Array.length_toList]; show pre.size ≤ _; omega)).mono ?_
    rintro e w3 ⟨rfl, v3, hD3, hc3, hl3⟩
    have hB3 : Below w.heap.size w w3 := HD.out.2.trans (hc3.below HD.out.2.size (fun i hi => by rcases hi with rfl | hi <;> simp [Value.ownBlock] at * <;> omega))
    have hst3 := string_calls w3 (w.heap.size + 1) src st en true v3 _ hD3 b2 b3
    have hcv3 := run_string (P := Yba.prog) w3 26 9 5 Yba.underlying26 Yba.underlying5 Yba.underlying9 v3 _ hD3.2.1
    have e2 : (⟨(text src st en true (text src st en true pre.data.toList ++ s.data.toList)).toArray⟩ : ByteArray) = pre ++ s := e1
    rw [e2] at hst3
    rw [e1] at hcv3
    clear e1 e2 hl3 hc3 HD HX hcv hst hd hse
    have c0 : w3.cell? ⟨w.heap.size + 1, 0, none⟩ = some (.string src) := blk_cell hD3.1 0
    have c3 : w3.cell? ⟨w.heap.size + 1, 3, none⟩ = some (.bool true) := blk_cell hD3.1 3
    have c4 : w3.cell? ⟨w.heap.size + 1, 4, none⟩ = some v3 := blk_cell hD3.1 4
    obtain ⟨ao, cap3, rfl, _, _⟩ := hD3.2.1.form
    have HS := hid hst3
    have HB := hid hB3
    clear hst3 hB3 hD3
    generalize (text src st en true pre.data.toList ++ s.data.toList).length = nn at hcv3 c4
    go_wp2_with fail
    refine HS.out.mono ?_
    rintro e w4 ⟨rfl, nq, rfl⟩
    go_wp2
    go_ret
    exact ⟨rfl, ⟨HB.out.os, HB.out.tape, HB.out.output, HB.out.size, HB.out.block⟩⟩

/-- One string of more than 1024 bytes: true at once. -/
theorem walk_great (src : ByteArray) (a b : Int) (pre : ByteArray) (cp : Bool) (s : ByteArray) (w : World) (w0 : src.size ≤ maxLen) (w3 : pre.size ≤ maxLen) (w5 : s.size ≤ maxLen) (h : 1024 < src.size ∨ 1024 < pre.size ∨ 1024 < s.size) :
    Calls Yba.prog 4 #[.string src, .int .i64 a, .int .i64 b, .string pre, .bool cp, .string s] w fun e w' => e = .returned (.bool true) ∧ Below w.heap.size w w' := by
  unfold maxLen at w0 w3 w5
  by_cases h1 : 1024 < src.size
  · go_enter Yba.func4, Yba.ntmps4
    go_wp2
    go_ret
    exact ⟨rfl, Below.refl _ _⟩
  · by_cases h2 : 1024 < pre.size
    · go_enter Yba.func4, Yba.ntmps4
      go_wp2
      go_ret
      exact ⟨rfl, Below.refl _ _⟩
    · have h3 : 1024 < s.size := by omega
      go_enter Yba.func4, Yba.ntmps4
      go_wp2
      go_ret
      exact ⟨rfl, Below.refl _ _⟩
end Go.Proofs.Ybulkbzqc.Once
