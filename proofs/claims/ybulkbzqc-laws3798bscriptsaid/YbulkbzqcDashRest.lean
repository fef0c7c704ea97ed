/- The methods of dashText by their contracts: reset, add. -/
import Derived.Test.YbulkbzqcDashMore
namespace Go.Proofs.Ybulkbzqc.Dash
open Go.RowKit Go.Proofs.Ybulkbzqc.Mem Go.Proofs.Ybulkbzqc.Txt
attribute [local go_sem ↓] Go.wp_at_zero Go.wp_at_succ

/-- A field that is not the buffer is set: what the dashText is then. -/
theorem Dash.start_set {w : World} {T : Nat} {src : ByteArray} {st en : Nat} {cp : Bool} {v : Value} {l : List UInt8} (h : Dash w T src st en cp v l) (x : Nat) : Dash (w.setCell ⟨T, 1, none⟩ (.int .i64 (x : Int))) T src x en cp v l :=
  ⟨(blk_set h.1 1 (.int .i64 (x : Int))).trans rfl, h.2.1.kept (Chg.setCell w T 1 (.int .i64 (x : Int)) (S := fun k => k = T) rfl) (fun _ hk e => h.2.2 (e ▸ hk)), h.2.2⟩
theorem Dash.end_set {w : World} {T : Nat} {src : ByteArray} {st en : Nat} {cp : Bool} {v : Value} {l : List UInt8} (h : Dash w T src st en cp v l) (x : Nat) : Dash (w.setCell ⟨T, 2, none⟩ (.int .i64 (x : Int))) T src st x cp v l :=
  ⟨(blk_set h.1 2 (.int .i64 (x : Int))).trans rfl, h.2.1.kept (Chg.setCell w T 2 (.int .i64 (x : Int)) (S := fun k => k = T) rfl) (fun _ hk e => h.2.2 (e ▸ hk)), h.2.2⟩
theorem Dash.buf_cut {w : World} {T : Nat} {src : ByteArray} {st en : Nat} {cp : Bool} {ao : Option Addr} {n cap : Nat} {l : List UInt8} (h : Dash w T src st en cp (.slice ao n cap) l) : Dash (w.setCell ⟨T, 4, none⟩ (.slice ao 0 cap)) T src st en cp (.slice ao 0 cap) [] := by
  have hne : (Value.slice ao 0 cap).ownBlock ≠ some T := by rw [own_slice ao 0 cap n cap]; exact h.2.2
  exact ⟨(blk_set h.1 4 _).trans rfl, h.2.1.cutAny.kept (Chg.setCell w T 4 (.slice ao 0 cap) (S := fun k => k = T) rfl) (fun _ hk e => hne (e ▸ hk)), hne⟩

set_option maxRecDepth 100000 in
set_option maxHeartbeats 1600000 in
theorem reset_calls (w : World) (T : Nat) (src : ByteArray) (st en : Nat) (cp : Bool) (v : Value) (l : List UInt8) (hD : Dash w T src st en cp v l) :
    Calls Yba.prog 8 #[.pointer (some ⟨T, 0, none⟩)] w fun e w' => e = .returned (.tuple #[]) ∧ ∃ v', Dash w' T src 0 0 false v' [] ∧ Chg w w' (fun k => k = T ∨ v.ownBlock = some k) ∧ Lies w v v' := by
  obtain ⟨ao, cap, rfl, hlc, hcm⟩ := hD.2.1.form
  have c1 : w.cell? ⟨T, 1, none⟩ = some (.int .i64 (st : Int)) := blk_cell hD.1 1
  have c2 : w.cell? ⟨T, 2, none⟩ = some (.int .i64 (en : Int)) := blk_cell hD.1 2
  have c3 : w.cell? ⟨T, 3, none⟩ = some (.bool cp) := blk_cell hD.1 3
  have c4 : w.cell? ⟨T, 4, none⟩ = some (.slice ao l.length cap) := blk_cell hD.1 4
  have f1 := blk_free hD.1 1
  have f2 := blk_free hD.1 2
  have f3 := blk_free hD.1 3
  have f4 := blk_free hD.1 4
  have HD := hid ((((hD.start_set 0).end_set 0).flag false).buf_cut)
  have HC : Hid (Chg w _ (fun k => k = T ∨ (Value.slice ao l.length cap).ownBlock = some k)) := chg_field (u := .slice ao 0 cap) (o := 4) (chg_field (u := .bool false) (o := 3) (chg_field (u := .int .i64 ((0 : Nat) : Int)) (o := 2) (chg_field (u := .int .i64 ((0 : Nat) : Int)) (o := 1) (Chg.refl w _) (.inl rfl)) (.inl rfl)) (.inl rfl)) (.inl rfl)
  clear hD
  unfold maxLen at hcm
  have g1 : (0 : Int) ≤ (cap : Int) := by omega
  go_enter Yba.func8, Yba.ntmps8
  go_wp2
  go_end0
  exact ⟨rfl, _, HD.out, HC.out, .inl (own_slice ao 0 cap l.length cap)⟩

set_option maxRecDepth 100000 in
set_option maxHeartbeats 1600000 in
theorem add_copied (w : World) (T : Nat) (src : ByteArray) (st en : Nat) (v : Value) (l : List UInt8) (hD : Dash w T src st en true v l) (f t : Nat) (h1 : f ≤ t) (h2 : t ≤ src.size) (h3 : src.size ≤ 1024) (hl : l.length ≤ 1099511627776) :
    Calls Yba.prog 6 #[.pointer (some ⟨T, 0, none⟩), .int .i64 (f : Int), .int .i64 (t : Int)] w fun e w' => e = .returned (.tuple #[]) ∧ ∃ v', Dash w' T src st en true v' (l ++ (src.extract f t).data.toList) ∧ Chg w w' (fun k => k = T ∨ v.ownBlock = some k) ∧ Lies w v v' := by
  obtain ⟨i5, hi, hz0, hz1, hz2⟩ := info_parts info5
  have c0 : w.cell? ⟨T, 0, none⟩ = some (.string src) := blk_cell hD.1 0
  have c3 : w.cell? ⟨T, 3, none⟩ = some (.bool true) := blk_cell hD.1 3
  have c4 : w.cell? ⟨T, 4, none⟩ = some v := blk_cell hD.1 4
  have b1 : (0 : Int) ≤ (f : Int) := by omega
  have b2 : (f : Int) ≤ (t : Int) := by omega
  have b3 : (t : Int) ≤ (src.size : Int) := by omega
  have hs : (src.extract f t).size ≤ 1024 := by simp; omega
  obtain ⟨hT, hv, hne⟩ := hD
  obtain ⟨ao, cap, rfl, hlc, hcm⟩ := hv.form
  have HT := hid hT
  have HV := hid hv
  have HN := hid hne
  clear hT hv hne
  go_enter Yba.func6, Yba.ntmps6
  go_wp2_with fail
  go_region_law ((refine step_append (by rfl) _ _ _ _ (by rfl) 5 i5 Yba.underlying26 Yba.underlying9 hi hz0 hz1 hz2 (.slice ao l.length cap) l (by rfl) (by exact HV.out) (src.extract f t) (by rfl) (by omega) ?_; intro a' n' c' w1 ht hc hl; obtain ⟨hT1, hne1⟩ := behind (by exact HT.out) HN.out hc hl; have d4 := blk_cell hT1 4; have f4 := blk_free hT1 4; simp at d4; have HT1 := hid hT1; have HN1 := hid hne1; have Ht := hid ht; have Hc := hid hc; have Hl := hid hl; clear hT1 hne1 ht hc hl))
  all_goals
    go_wp2
    go_end0
    obtain ⟨z1, z2, z3⟩ := stored HT1.out HN1.out Ht.out Hc.out Hl.out rfl (Chg.drewN w 1 _)
    exact ⟨rfl, _, z1, z2, z3⟩

theorem Dash.drewN {w : World} {T : Nat} {src : ByteArray} {st en : Nat} {cp : Bool} {v : Value} {l : List UInt8} (h : Dash w T src st en cp v l) (q : Nat) : Dash (w.drewN q) T src st en cp v l := h

set_option maxRecDepth 100000 in
set_option maxHeartbeats 1600000 in
/-- add to an empty text. -/
theorem add_first (w : World) (T : Nat) (src : ByteArray) (st : Nat) (v : Value) (l : List UInt8) (hD : Dash w T src st st false v l) (f t : Nat) :
    Calls Yba.prog 6 #[.pointer (some ⟨T, 0, none⟩), .int .i64 (f : Int), .int .i64 (t : Int)] w fun e w' => e = .returned (.tuple #[]) ∧ Dash w' T src f t false v l ∧ Chg w w' (fun k => k = T ∨ v.ownBlock = some k) := by
  have c1 : w.cell? ⟨T, 1, none⟩ = some (.int .i64 (st : Int)) := blk_cell hD.1 1
  have c2 : w.cell? ⟨T, 2, none⟩ = some (.int .i64 (st : Int)) := blk_cell hD.1 2
  have c3 : w.cell? ⟨T, 3, none⟩ = some (.bool false) := blk_cell hD.1 3
  have f1 := blk_free hD.1 1
  have f2 := blk_free hD.1 2
  have HD := hid hD
  clear hD
  go_enter Yba.func6, Yba.ntmps6
  go_wp2
  go_quiet (fail)
  go_wp2
  go_end0
  exact ⟨rfl, ((HD.out.drewN _).start_set f).end_set t, chg_field (chg_field (Chg.drewN w _ _) (.inl rfl)) (.inl rfl)⟩

set_option maxRecDepth 100000 in
set_option maxHeartbeats 1600000 in
/-- add right behind the text. -/
theorem add_next (w : World) (T : Nat) (src : ByteArray) (st en : Nat) (v : Value) (l : List UInt8) (hD : Dash w T src st en false v l) (t : Nat) (hne : st ≠ en) :
    Calls Yba.prog 6 #[.pointer (some ⟨T, 0, none⟩), .int .i64 (en : Int), .int .i64 (t : Int)] w fun e w' => e = .returned (.tuple #[]) ∧ Dash w' T src st t false v l ∧ Chg w w' (fun k => k = T ∨ v.ownBlock = some k) := by
  have c1 : w.cell? ⟨T, 1, none⟩ = some (.int .i64 (st : Int)) := blk_cell hD.1 1
  have c2 : w.cell? ⟨T, 2, none⟩ = some (.int .i64 (en : Int)) := blk_cell hD.1 2
  have c3 : w.cell? ⟨T, 3, none⟩ = some (.bool false) := blk_cell hD.1 3
  have f2 := blk_free hD.1 2
  have hb : ((st : Int) == (en : Int)) = false := by simp; omega
  have HD := hid hD
  clear hD hne
  go_enter Yba.func6, Yba.ntmps6
  go_wp2
  go_quiet (fail)
  go_wp2
  go_end0
  exact ⟨rfl, (HD.out.drewN _).end_set t, chg_field (Chg.drewN w _ _) (.inl rfl)⟩

set_option maxRecDepth 100000 in
set_option maxHeartbeats 1600000 in
/-- add elsewhere: the text is copied first. -/
theorem add_apart (w : World) (T : Nat) (src : ByteArray) (st en : Nat) (v : Value) (l : List UInt8) (hD : Dash w T src st en false v l) (f t : Nat) (h1 : f ≤ t) (h2 : t ≤ src.size) (h3 : src.size ≤ 1024) (g1 : st ≤ en) (g2 : en ≤ src.size) (hne : st ≠ en) (hnf : en ≠ f) :
    Calls Yba.prog 6 #[.pointer (some ⟨T, 0, none⟩), .int .i64 (f : Int), .int .i64 (t : Int)] w fun e w' => e = .returned (.tuple #[]) ∧ ∃ v', Dash w' T src st en true v' ((src.extract st en).data.toList ++ (src.extract f t).data.toList) ∧ Chg w w' (fun k => k = T ∨ v.ownBlock = some k) ∧ Lies w v v' := by
  obtain ⟨i5, hi, hz0, hz1, hz2⟩ := info_parts info5
  have c1 : w.cell? ⟨T, 1, none⟩ = some (.int .i64 (st : Int)) := blk_cell hD.1 1
  have c2 : w.cell? ⟨T, 2, none⟩ = some (.int .i64 (en : Int)) := blk_cell hD.1 2
  have c3 : w.cell? ⟨T, 3, none⟩ = some (.bool false) := blk_cell hD.1 3
  have b1 : (0 : Int) ≤ (f : Int) := by omega
  have b2 : (f : Int) ≤ (t : Int) := by omega
  have b3 : (t : Int) ≤ (src.size : Int) := by omega
  have hs : (src.extract f t).size ≤ 1024 := by simp; omega
  have hs' : (src.extract st en).size ≤ 1024 := by simp; omega
  have hb : ((st : Int) == (en : Int)) = false := by simp; omega
  have hb' : ((en : Int) == (f : Int)) = false := by simp; omega
  have HD := hid hD
  clear hD hne hnf
  go_enter Yba.func6, Yba.ntmps6
  go_wp2
  go_quiet (fail)
  go_wp2_with fail
  refine (copy_calls _ T src st en false v l (HD.out.drewN _) g1 g2 h3).mono ?_
  rintro e w0 ⟨rfl, v0, hD0, hc0, hl0⟩
  have hc0' := (Chg.drewN w _ _).trans hc0 (fun _ _ h => h)
  have hl0' : Lies w v v0 := hl0
  clear HD c1 c2 c3 hc0 hl0
  obtain ⟨hT, hv, hne⟩ := hD0
  have c0 : w0.cell? ⟨T, 0, none⟩ = some (.string src) := blk_cell hT 0
  have c4 : w0.cell? ⟨T, 4, none⟩ = some v0 := blk_cell hT 4
  obtain ⟨ao, cap, rfl, hlc, hcm⟩ := hv.form
  have hll : (src.extract st en).data.toList.length ≤ 1024 := by rw [Array.length_toList]; exact hs'
  generalize hle : (src.extract st en).data.toList = l0 at *
  have HE := hid hle
  have HT := hid hT
  have HV := hid hv
  have HN := hid hne
  have HC0 := hid hc0'
  have HL0 := hid hl0'
  clear hT hv hne hc0' hl0' hle
  go_wp2_with fail
  go_region_law ((refine step_append (by rfl) _ _ _ _ (by rfl) 5 i5 Yba.underlying26 Yba.underlying9 hi hz0 hz1 hz2 (.slice ao l0.length cap) l0 (by rfl) (by exact HV.out) (src.extract f t) (by rfl) (by omega) ?_; intro a' n' c' w1 ht hc hl; obtain ⟨hT1, hne1⟩ := behind (by exact HT.out) HN.out hc hl; have d4 := blk_cell hT1 4; have f4 := blk_free hT1 4; simp at d4; have HT1 := hid hT1; have HN1 := hid hne1; have Ht := hid ht; have Hc := hid hc; have Hl := hid hl; clear hT1 hne1 ht hc hl))
  all_goals
    go_wp2
    go_end0
    obtain ⟨z1, z2, z3⟩ := stored HT1.out HN1.out Ht.out Hc.out Hl.out rfl (Chg.drewN w0 1 _)
    rw [HE.out]
    exact ⟨rfl, _, z1, chg_then HC0.out HL0.out z2, HL0.out.trans z3 HC0.out.size⟩

end Go.Proofs.Ybulkbzqc.Dash
