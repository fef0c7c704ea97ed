/- The methods of dashText by their contracts: addString, string. -/
import Derived.Test.YbulkbzqcDash
namespace Go.Proofs.Ybulkbzqc.Dash
open Go.RowKit Go.Proofs.Ybulkbzqc.Mem Go.Proofs.Ybulkbzqc.Txt

theorem Lies.trans {w w1 : World} {v v1 v2 : Value} (h : Lies w v v1) (k : Lies w1 v1 v2) (hs : w.heap.size ≤ w1.heap.size) : Lies w v v2 := by
  rcases k with k | ⟨g, k, hg⟩
  · rcases h with h | ⟨g, h, hg⟩
    · exact .inl (k.trans h)
    · exact .inr ⟨g, k.trans h, hg⟩
  · exact .inr ⟨g, k, Nat.le_trans hs hg⟩

theorem chg_then {w w1 w2 : World} {T : Nat} {v v1 : Value} (h : Chg w w1 (fun k => k = T ∨ v.ownBlock = some k)) (hl : Lies w v v1) (k : Chg w1 w2 (fun k => k = T ∨ v1.ownBlock = some k)) : Chg w w2 (fun k => k = T ∨ v.ownBlock = some k) := by
  refine h.trans k fun i hi hu => ?_
  rcases hu with hu | hu
  · exact .inl hu
  · rcases hl with hl | ⟨g, hl, hg⟩
    · exact .inr (hl ▸ hu)
    · rw [hl] at hu
      simp at hu
      omega

/-- The text that the dashText holds. -/
def text (src : ByteArray) (st en : Nat) (cp : Bool) (l : List UInt8) : List UInt8 := if cp then l else (src.extract st en).data.toList

set_option maxRecDepth 100000 in
set_option maxHeartbeats 1600000 in
theorem addString_copied (w : World) (T : Nat) (src : ByteArray) (st en : Nat) (v : Value) (l : List UInt8) (s : ByteArray) (hD : Dash w T src st en true v l) (hs : s.size ≤ 1024) (hl : l.length ≤ 1099511627776) :
    Calls Yba.prog 7 #[.pointer (some ⟨T, 0, none⟩), .string s] w fun e w' => e = .returned (.tuple #[]) ∧ ∃ v', Dash w' T src st en true v' (l ++ s.data.toList) ∧ Chg w w' (fun k => k = T ∨ v.ownBlock = some k) ∧ Lies w v v' := by
  obtain ⟨hT, hv, hne⟩ := hD
  obtain ⟨i5, hi, hz0, hz1, hz2⟩ := info_parts info5
  have c3 : w.cell? ⟨T, 3, none⟩ = some (.bool true) := blk_cell hT 3
  have c4 : w.cell? ⟨T, 4, none⟩ = some v := blk_cell hT 4
  obtain ⟨ao, cap, rfl, hlc, hcm⟩ := hv.form
  have HT := hid hT
  have HV := hid hv
  have HN := hid hne
  clear hT hv hne
  go_enter Yba.func7, Yba.ntmps7
  go_wp2_with (at_builtin; refine wpList_append (by rfl) _ _ _ _ (by rfl) 5 i5 Yba.underlying26 Yba.underlying9 hi hz0 hz1 hz2 (.slice ao l.length cap) l (by rfl) (by exact HV.out) s (by rfl) (by omega) ?_; intro a' n' c' w1 ht hc hl; obtain ⟨hT1, hne1⟩ := behind (by exact HT.out) HN.out hc hl; have d4 := blk_cell hT1 4; have f4 := blk_free hT1 4; simp at d4; have HT1 := hid hT1; have HN1 := hid hne1; have Ht := hid ht; have Hc := hid hc; have Hl := hid hl; clear hT1 hne1 ht hc hl)
  go_end0
  obtain ⟨z1, z2, z3⟩ := stored HT1.out HN1.out Ht.out Hc.out Hl.out rfl (Chg.refl w _)
  exact ⟨rfl, _, z1, z2, z3⟩

set_option maxRecDepth 100000 in
set_option maxHeartbeats 1600000 in
theorem addString_whole (w : World) (T : Nat) (src : ByteArray) (st en : Nat) (v : Value) (l : List UInt8) (s : ByteArray) (hD : Dash w T src st en false v l) (h1 : st ≤ en) (h2 : en ≤ src.size) (h3 : src.size ≤ 1024) (hs : s.size ≤ 1024) :
    Calls Yba.prog 7 #[.pointer (some ⟨T, 0, none⟩), .string s] w fun e w' => e = .returned (.tuple #[]) ∧ ∃ v', Dash w' T src st en true v' ((src.extract st en).data.toList ++ s.data.toList) ∧ Chg w w' (fun k => k = T ∨ v.ownBlock = some k) ∧ Lies w v v' := by
  obtain ⟨i5, hi, hz0, hz1, hz2⟩ := info_parts info5
  have c3 : w.cell? ⟨T, 3, none⟩ = some (.bool false) := blk_cell hD.1 3
  have HD := hid hD
  clear hD
  have hsz : (src.extract st en).size ≤ 1024 := by simp; omega
  go_enter Yba.func7, Yba.ntmps7
  go_wp2_with fail
  refine (copy_calls w T src st en false v l HD.out h1 h2 h3).mono ?_
  rintro e w0 ⟨rfl, v0, hD0, hc0, hl0⟩
  clear HD c3
  obtain ⟨hT, hv, hne⟩ := hD0
  have c4 : w0.cell? ⟨T, 4, none⟩ = some v0 := blk_cell hT 4
  obtain ⟨ao, cap, rfl, hlc, hcm⟩ := hv.form
  have hll : (src.extract st en).data.toList.length ≤ 1024 := by rw [Array.length_toList]; exact hsz
  generalize hle : (src.extract st en).data.toList = l0 at *
  have HE := hid hle
  clear hle
  have HT := hid hT
  have HV := hid hv
  have HN := hid hne
  have HC0 := hid hc0
  have HL0 := hid hl0
  clear hT hv hne hc0 hl0
  go_wp2_with (at_builtin; refine wpList_append (by rfl) _ _ _ _ (by rfl) 5 i5 Yba.underlying26 Yba.underlying9 hi hz0 hz1 hz2 (.slice ao l0.length cap) l0 (by rfl) (by exact HV.out) s (by rfl) (by omega) ?_; intro a' n' c' w1 ht hc hl; obtain ⟨hT1, hne1⟩ := behind (by exact HT.out) HN.out hc hl; have d4 := blk_cell hT1 4; have f4 := blk_free hT1 4; simp at d4; have HT1 := hid hT1; have HN1 := hid hne1; have Ht := hid ht; have Hc := hid hc; have Hl := hid hl; clear hT1 hne1 ht hc hl)
  go_end0
  obtain ⟨z1, z2, z3⟩ := stored HT1.out HN1.out Ht.out Hc.out Hl.out rfl (Chg.refl w0 _)
  rw [HE.out]
  exact ⟨rfl, _, z1, chg_then HC0.out HL0.out z2, HL0.out.trans z3 HC0.out.size⟩

/-- addString, whatever the dashText holds. -/
theorem addString_calls (w : World) (T : Nat) (src : ByteArray) (st en : Nat) (cp : Bool) (v : Value) (l : List UInt8) (s : ByteArray) (hD : Dash w T src st en cp v l) (h1 : st ≤ en) (h2 : en ≤ src.size) (h3 : src.size ≤ 1024) (hs : s.size ≤ 1024) (hl : l.length ≤ 1099511627776) :
    Calls Yba.prog 7 #[.pointer (some ⟨T, 0, none⟩), .string s] w fun e w' => e = .returned (.tuple #[]) ∧ ∃ v', Dash w' T src st en true v' (text src st en cp l ++ s.data.toList) ∧ Chg w w' (fun k => k = T ∨ v.ownBlock = some k) ∧ Lies w v v' := by
  cases cp
  · exact addString_whole w T src st en v l s hD h1 h2 h3 hs
  · exact addString_copied w T src st en v l s hD hs hl

/-- string. -/
theorem string_calls (w : World) (T : Nat) (src : ByteArray) (st en : Nat) (cp : Bool) (v : Value) (l : List UInt8) (hD : Dash w T src st en cp v l) (h1 : st ≤ en) (h2 : en ≤ src.size) :
    Calls Yba.prog 9 #[.pointer (some ⟨T, 0, none⟩)] w fun e w' => e = .returned (.string ⟨(text src st en cp l).toArray⟩) ∧ ∃ nq, w' = w.drewN nq := by
  obtain ⟨hT, hv, hne⟩ := hD
  have c0 : w.cell? ⟨T, 0, none⟩ = some (.string src) := blk_cell hT 0
  have c1 : w.cell? ⟨T, 1, none⟩ = some (.int .i64 (st : Int)) := blk_cell hT 1
  have c2 : w.cell? ⟨T, 2, none⟩ = some (.int .i64 (en : Int)) := blk_cell hT 2
  have c3 : w.cell? ⟨T, 3, none⟩ = some (.bool cp) := blk_cell hT 3
  have c4 : w.cell? ⟨T, 4, none⟩ = some v := blk_cell hT 4
  have b1 : (0 : Int) ≤ (st : Int) := by omega
  have b2 : (st : Int) ≤ (en : Int) := by omega
  have b3 : (en : Int) ≤ (src.size : Int) := by omega
  cases cp
  · have e1 : (⟨(text src st en false l).toArray⟩ : ByteArray) = src.extract st en := by
      apply ByteArray.ext
      show ((src.extract st en).data.toList).toArray = (src.extract st en).data
      exact Array.toArray_toList
    rw [e1]
    clear e1 hT hv hne c4
    go_enter Yba.func9, Yba.ntmps9
    go_wp2
    go_quiet (fail)
    go_wp2
    go_ret
    exact ⟨rfl, _, rfl⟩
  · have hcv := run_string (P := Yba.prog) w 26 9 5 Yba.underlying26 Yba.underlying5 Yba.underlying9 v l hv
    obtain ⟨ao, cap, rfl, hlc, hcm⟩ := hv.form
    clear hT hv hne
    go_enter Yba.func9, Yba.ntmps9
    go_wp2
    go_ret
    exact ⟨rfl, 0, rfl⟩

end Go.Proofs.Ybulkbzqc.Dash
