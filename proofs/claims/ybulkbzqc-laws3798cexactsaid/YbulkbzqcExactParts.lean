/- What the filling loop of LawS3798CExact does to its row, as plain laws on worlds. -/
import Derived.Test.YbulkbzqcMem
namespace Go.Proofs.Ybulkbzqc.Exact
open Go.RowKit Go.Proofs.Ybulkbzqc.Mem

/-- The first k lines of the row in block B. -/
def Lines (W : World) (B k : Nat) (z : Nat → Int) : Prop :=
  ∀ j, j < k → W.cell? ⟨B, j * 3, none⟩ = some (.string ⟨#[35]⟩) ∧ W.cell? ⟨B, j * 3 + 1, none⟩ = some (.int .i64 (z j)) ∧ W.cell? ⟨B, j * 3 + 2, none⟩ = some (.bool ((j : Int) % 2 == 0))

/-- The row in block B: n lines of three cells, writable, the first k filled. -/
def Fill (W : World) (B n k : Nat) (z : Nat → Int) : Prop :=
  ∃ cur, W.heap[B]? = some (.cells cur 39 (0, 0)) ∧ cur.size = n * 3 ∧ Lines W B k z

theorem Fill.start {W : World} {B n : Nat} {c c' : Nat} {xs : List Value} {z : Nat → Int} {base : Nat} (h : W.ownsRow base 39 3 (.slice (some ⟨B, 0, none⟩) c c') n xs) (hc : n = c') : Fill W B n 0 z := by
  subst hc
  obtain ⟨_, h | ⟨g, cap, cur, hv, _, hh, _, _, hs, _⟩⟩ := h
  · exact absurd h.1 (by simp)
  · simp at hv
    obtain ⟨rfl, rfl, rfl⟩ := hv
    exact ⟨cur, hh, hs, fun j h => absurd h (by omega)⟩

theorem Fill.free {W : World} {B n k : Nat} {z : Nat → Int} (h : Fill W B n k z) (o : Nat) : W.frozen? ⟨B, o, none⟩ = false := by
  obtain ⟨cur, hh, _, _⟩ := h
  exact blk_free hh o

theorem Fill.there {W : World} {B n k : Nat} {z : Nat → Int} (h : Fill W B n k z) {o : Nat} (ho : o < n * 3) : ∃ v, W.cell? ⟨B, o, none⟩ = some v := by
  obtain ⟨cur, hh, hs, _⟩ := h
  rw [blk_cell hh]
  exact ⟨cur[o]'(by omega), Array.getElem?_eq_getElem (by omega)⟩

theorem Fill.lt {W : World} {B n k : Nat} {z : Nat → Int} (h : Fill W B n k z) : B < W.heap.size := by
  obtain ⟨cur, hh, _, _⟩ := h
  exact lt_of_block hh

theorem Fill.step {W : World} {B n k : Nat} {z : Nat → Int} (h : Fill W B n k z) (hk : k < n) :
    Fill (((W.setCell ⟨B, k * 3, none⟩ (.string ⟨#[35]⟩)).setCell ⟨B, k * 3 + 1, none⟩ (.int .i64 (z k))).setCell ⟨B, k * 3 + 2, none⟩ (.bool ((k : Int) % 2 == 0))) B n (k + 1) z := by
  obtain ⟨cur, hh, hs, hl⟩ := h
  have h3 := blk_set (blk_set (blk_set hh (k * 3) (.string ⟨#[35]⟩)) (k * 3 + 1) (.int .i64 (z k))) (k * 3 + 2) (.bool ((k : Int) % 2 == 0))
  refine ⟨_, h3, by simpa using hs, fun j hj => ?_⟩
  rw [blk_cell h3, blk_cell h3, blk_cell h3]
  by_cases e : j = k
  · subst e
    refine ⟨?_, ?_, ?_⟩ <;> simp [Array.getElem?_setIfInBounds] <;> omega
  · obtain ⟨g1, g2, g3⟩ := hl j (by omega)
    rw [blk_cell hh] at g1 g2 g3
    refine ⟨?_, ?_, ?_⟩
    · rw [Array.getElem?_setIfInBounds_ne (by omega), Array.getElem?_setIfInBounds_ne (by omega), Array.getElem?_setIfInBounds_ne (by omega)]; exact g1
    · rw [Array.getElem?_setIfInBounds_ne (by omega), Array.getElem?_setIfInBounds_ne (by omega), Array.getElem?_setIfInBounds_ne (by omega)]; exact g2
    · rw [Array.getElem?_setIfInBounds_ne (by omega), Array.getElem?_setIfInBounds_ne (by omega), Array.getElem?_setIfInBounds_ne (by omega)]; exact g3

theorem Lines.kept {W W' : World} {B k : Nat} {z : Nat → Int} (h : Lines W B k z) (he : ∀ o, W'.cell? ⟨B, o, none⟩ = W.cell? ⟨B, o, none⟩) : Lines W' B k z := by
  intro j hj
  rw [he, he, he]
  exact h j hj

/-- The receiver in block P and its lines in block B. -/
def Held (W : World) (B P n f : Nat) (run : Int) (gap : Bool) (z : Nat → Int) : Prop :=
  W.cell? ⟨P, 0, none⟩ = some (.slice (some ⟨B, 0, none⟩) n n) ∧ W.cell? ⟨P, 1, none⟩ = some (.int .i64 f) ∧ W.cell? ⟨P, 2, none⟩ = some (.int .i64 run) ∧ W.cell? ⟨P, 3, none⟩ = some (.bool gap) ∧ Lines W B n z

theorem Fill.held {W : World} {B n : Nat} {z : Nat → Int} (h : Fill W B n n z) (f : Nat) (run : Int) (gap : Bool) :
    Held (W.alloc (.cells #[.slice (some ⟨B, 0, none⟩) n n, .int .i64 f, .int .i64 run, .bool gap] 42)) B W.heap.size n f run gap z := by
  have hn := blk_new W (.cells #[.slice (some ⟨B, 0, none⟩) n n, .int .i64 f, .int .i64 run, .bool gap] 42)
  refine ⟨by rw [blk_cell hn]; rfl, by rw [blk_cell hn]; rfl, by rw [blk_cell hn]; rfl, by rw [blk_cell hn]; rfl, ?_⟩
  have hlt := h.lt
  obtain ⟨cur, hh, _, hl⟩ := h
  refine hl.kept fun o => ?_
  rw [blk_cell hh, blk_cell ((blk_alloc _ hlt).trans hh)]

theorem Held.drewN {W : World} {B P n f : Nat} {run : Int} {gap : Bool} {z : Nat → Int} (h : Held W B P n f run gap z) (q : Nat) : Held (W.drewN q) B P n f run gap z := h

theorem Below.drewN {B : Nat} {a w : World} (h : Below B a w) (n : Nat) : Below B a (w.drewN n) := ⟨h.os, h.tape, h.output, h.size, h.block⟩
end Go.Proofs.Ybulkbzqc.Exact
