/- The methods of dashText by their contracts. -/
import Derived.Test.YbulkbzqcRows
import Derived.WalkKit
import Derived.ProofKit
import Derived.BigQuiet
import Derived.Deep.RegionLaw
import Derived.Deep.DrawnRows
import Derived.Test.YbulkbzqcTxt
namespace Go.Proofs.Ybulkbzqc.Dash
open Go.RowKit Go.Proofs.Ybulkbzqc.Mem Go.Proofs.Ybulkbzqc.Txt
attribute [local go_sem ↓] Go.wp_at_zero Go.wp_at_succ

theorem info5 : (Yba.prog.info? 5).map (fun i => (i.zero, i.size, i.bytes)) = some (some (.int .u8 0), 1, 1) := by kernel_rfl

/-- The dashText in block T, and what its buffer holds. -/
def Dash (w : World) (T : Nat) (src : ByteArray) (st en : Nat) (cp : Bool) (v : Value) (l : List UInt8) : Prop :=
  w.heap[T]? = some (.cells #[.string src, .int .i64 (st : Int), .int .i64 (en : Int), .bool cp, v] 28 (0, 0)) ∧ Txt w v l ∧ v.ownBlock ≠ some T

/-- Where the new buffer lies. -/
def Lies (w : World) (v v' : Value) : Prop := v'.ownBlock = v.ownBlock ∨ ∃ g, v'.ownBlock = some g ∧ w.heap.size ≤ g

/-- What a dashText is behind an append to its buffer: the block is as it was, the buffer another. -/
theorem behind {w w1 : World} {T : Nat} {src : ByteArray} {st en : Nat} {cp : Bool} {v v0 v' : Value} (hT : w.heap[T]? = some (.cells #[.string src, .int .i64 (st : Int), .int .i64 (en : Int), .bool cp, v] 28 (0, 0)))
    (hne : v0.ownBlock ≠ some T) (hc : Chg w w1 (fun k => v0.ownBlock = some k)) (hl : v'.ownBlock = v0.ownBlock ∨ v'.ownBlock = some w.heap.size) :
    w1.heap[T]? = some (.cells #[.string src, .int .i64 (st : Int), .int .i64 (en : Int), .bool cp, v] 28 (0, 0)) ∧ v'.ownBlock ≠ some T := by
  have hlt := lt_of_block hT
  refine ⟨(hc.block T hlt hne).trans hT, ?_⟩
  rcases hl with h | h
  · rw [h]; exact hne
  · rw [h]; intro e; simp at e; omega

theorem Lies.of {w w0 : World} {v v0 v' : Value} (h : v'.ownBlock = v0.ownBlock ∨ v'.ownBlock = some w0.heap.size) (hv : v0.ownBlock = v.ownBlock) (hw : w.heap.size ≤ w0.heap.size) : Lies w v v' := by
  rcases h with h | h
  · exact .inl (h.trans hv)
  · exact .inr ⟨_, h, hw⟩

/-- The buffer's field is set: what the dashText is then. -/
theorem stored {w w0 w1 : World} {T : Nat} {src : ByteArray} {st en : Nat} {cp : Bool} {v v0 v' : Value} {l : List UInt8}
    (hT1 : w1.heap[T]? = some (.cells #[.string src, .int .i64 (st : Int), .int .i64 (en : Int), .bool cp, v] 28 (0, 0))) (hN1 : v'.ownBlock ≠ some T) (ht : Txt w1 v' l)
    (hc : Chg w0 w1 (fun k => v0.ownBlock = some k)) (hl : v'.ownBlock = v0.ownBlock ∨ v'.ownBlock = some w0.heap.size) (hv : v0.ownBlock = v.ownBlock) (hw : Chg w w0 (fun k => k = T ∨ v.ownBlock = some k)) :
    Dash (w1.setCell ⟨T, 4, none⟩ v') T src st en cp v' l ∧ Chg w (w1.setCell ⟨T, 4, none⟩ v') (fun k => k = T ∨ v.ownBlock = some k) ∧ Lies w v v' := by
  refine ⟨⟨(blk_set hT1 4 v').trans rfl, ht.kept (Chg.setCell w1 T 4 v' (S := fun k => k = T) rfl) (fun _ hk e => hN1 (e ▸ hk)), hN1⟩, ?_, Lies.of hl hv hw.size⟩
  exact (hw.trans (hc.mono (U := fun k => k = T ∨ v.ownBlock = some k) (fun i _ h => .inr (hv ▸ h))) (fun i _ h => h)).trans (Chg.setCell w1 T 4 v' (S := fun k => k = T) rfl) (fun i _ h => .inl h)

/-- The flag is set. -/
theorem Dash.flag {w : World} {T : Nat} {src : ByteArray} {st en : Nat} {cp : Bool} {v : Value} {l : List UInt8} (h : Dash w T src st en cp v l) (b : Bool) : Dash (w.setCell ⟨T, 3, none⟩ (.bool b)) T src st en b v l :=
  ⟨(blk_set h.1 3 (.bool b)).trans rfl, h.2.1.kept (Chg.setCell w T 3 (.bool b) (S := fun k => k = T) rfl) (fun _ hk e => h.2.2 (e ▸ hk)), h.2.2⟩

theorem chg_field {w w1 : World} {T o : Nat} {u : Value} {S : Nat → Prop} (h : Chg w w1 S) (hS : S T) : Chg w (w1.setCell ⟨T, o, none⟩ u) S :=
  h.trans (Chg.setCell w1 T o u (S := S) hS) (fun _ _ h => h)

set_option maxRecDepth 100000 in
set_option maxHeartbeats 3200000 in
theorem copy_calls (w : World) (T : Nat) (src : ByteArray) (st en : Nat) (cp : Bool) (v : Value) (l : List UInt8) (hD : Dash w T src st en cp v l) (h1 : st ≤ en) (h2 : en ≤ src.size) (h3 : src.size ≤ 1024) :
    Calls Yba.prog 11 #[.pointer (some ⟨T, 0, none⟩)] w fun e w' => e = .returned (.tuple #[]) ∧ ∃ v', Dash w' T src st en true v' (src.extract st en).data.toList ∧ Chg w w' (fun k => k = T ∨ v.ownBlock = some k) ∧ Lies w v v' := by
  obtain ⟨hT, hv, hne⟩ := hD
  obtain ⟨i5, hi, hz0, hz1, hz2⟩ := info_parts info5
  have c0 : w.cell? ⟨T, 0, none⟩ = some (.string src) := blk_cell hT 0
  have c1 : w.cell? ⟨T, 1, none⟩ = some (.int .i64 (st : Int)) := blk_cell hT 1
  have c2 : w.cell? ⟨T, 2, none⟩ = some (.int .i64 (en : Int)) := blk_cell hT 2
  have c3 : w.cell? ⟨T, 3, none⟩ = some (.bool cp) := blk_cell hT 3
  have c4 : w.cell? ⟨T, 4, none⟩ = some v := blk_cell hT 4
  have b1 : (0 : Int) ≤ (st : Int) := by omega
  have b2 : (st : Int) ≤ (en : Int) := by omega
  have b3 : (en : Int) ≤ (src.size : Int) := by omega
  obtain ⟨ao, cap, rfl, hlc, hcm⟩ := hv.form
  have hv0 := hv.cutAny
  have hs : (src.extract st en).size ≤ 1024 := by simp; omega
  unfold maxLen at hcm
  have g1 : (0 : Int) ≤ (cap : Int) := by omega
  have HT := hid hT
  have HV := hid hv0
  have hne0 : (Value.slice ao 0 cap).ownBlock ≠ some T := by rw [own_slice ao 0 cap l.length cap]; exact hne
  have HN := hid hne0
  clear hT hv hv0 hne hne0
  go_enter Yba.func11, Yba.ntmps11
  go_wp2_with fail
  go_region_law ((refine step_append (by rfl) _ _ _ _ (by rfl) 5 i5 Yba.underlying26 Yba.underlying9 hi hz0 hz1 hz2 (.slice ao 0 cap) [] (by rfl) (by exact HV.out) (src.extract st en) (by rfl) (by simp; omega) ?_; intro a' n' c' w1 ht hc hl; obtain ⟨hT1, hne1⟩ := behind (by exact HT.out) HN.out hc hl; have d3 := blk_cell hT1 3; have d4 := blk_cell hT1 4; have f3 := blk_free hT1 3; have f4 := blk_free hT1 4; simp at d3 d4; have HT1 := hid hT1; have HN1 := hid hne1; have Ht := hid ht; have Hc := hid hc; have Hl := hid hl; clear hT1 hne1 ht hc hl))
  all_goals
    go_wp2
    go_end0
    obtain ⟨z1, z2, z3⟩ := stored HT1.out HN1.out Ht.out Hc.out Hl.out (own_slice ao 0 cap l.length cap) (Chg.drewN w 1 _)
    exact ⟨rfl, _, z1.flag true, chg_field z2 (.inl rfl), z3⟩
end Go.Proofs.Ybulkbzqc.Dash
