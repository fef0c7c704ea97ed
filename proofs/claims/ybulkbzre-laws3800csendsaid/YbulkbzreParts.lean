/- Plain parts of LawS3800CSend: whom a general writes to, and what lies in memory. No program in sight. -/
import Derived.WalkKit
import Derived.ProofKit
import Derived.BigQuiet
import Derived.Deep.AppendLies
namespace Go.Proofs.Ybulkbzre.Parts
open Go.RowKit

theorem hid {p : Prop} (h : p) : Hid p := h

/-- How many of the generals 0 .. t-1 are not 'id'. -/
def cnt (id : Int) (t : Nat) : Nat := if 0 ≤ id ∧ id < t then t - 1 else t
/-- The addressee of message number k. -/
def dest (id : Int) (k : Nat) : Nat := if 0 ≤ id ∧ id ≤ k then k + 1 else k

theorem cnt_zero (id : Int) : cnt id 0 = 0 := by unfold cnt; split <;> omega
theorem cnt_step {id : Int} {t : Nat} (h : (t : Int) ≠ id) : cnt id (t + 1) = cnt id t + 1 := by unfold cnt; split <;> split <;> omega
theorem cnt_skip {id : Int} {t : Nat} (h : (t : Int) = id) : cnt id (t + 1) = cnt id t := by unfold cnt; split <;> split <;> omega
theorem cnt_le (id : Int) (t : Nat) : cnt id t ≤ t := by unfold cnt; split <;> omega
theorem cnt_mono {id : Int} {t n : Nat} (h : t ≤ n) : cnt id t ≤ cnt id n := by unfold cnt; split <;> split <;> omega
theorem cnt_lt {id : Int} {t n : Nat} (h : t < n) (hne : (t : Int) ≠ id) : cnt id t < cnt id n := by unfold cnt; split <;> split <;> omega
theorem dest_cnt {id : Int} {t : Nat} (h : (t : Int) ≠ id) : dest id (cnt id t) = t := by unfold dest cnt; split <;> split <;> omega

/-- The messages' cells: for each its addressee and the orders that all of them share. -/
def msgs (id : Int) (c : Value) : Nat → List Value
  | 0 => []
  | q + 1 => msgs id c q ++ [.int .i64 (dest id q : Int), c]

theorem msgs_length (id : Int) (c : Value) (q : Nat) : (msgs id c q).length = q * 2 := by
  induction q with
  | zero => rfl
  | succ q ih => simp [msgs, ih]; omega

theorem msgs_to (id : Int) (c : Value) (q k : Nat) (h : k < q) : (msgs id c q)[k * 2]? = some (.int .i64 (dest id k : Int)) := by
  induction q with
  | zero => omega
  | succ q ih =>
    by_cases e : k = q
    · subst e
      rw [msgs, List.getElem?_append_right (by rw [msgs_length]; omega), msgs_length]
      simp
    · rw [msgs, List.getElem?_append_left (by rw [msgs_length]; omega)]
      exact ih (by omega)
theorem msgs_seen (id : Int) (c : Value) (q k : Nat) (h : k < q) : (msgs id c q)[k * 2 + 1]? = some c := by
  induction q with
  | zero => omega
  | succ q ih =>
    by_cases e : k = q
    · subst e
      rw [msgs, List.getElem?_append_right (by rw [msgs_length]; omega), msgs_length]
      simp
    · rw [msgs, List.getElem?_append_left (by rw [msgs_length]; omega)]
      exact ih (by omega)

/-! ### Worlds -/
theorem blk_cell {w : World} {b : Nat} {cs : Array Value} {t : TypeId} {fz : Nat × Nat} (h : w.heap[b]? = some (.cells cs t fz)) (o : Nat) : w.cell? ⟨b, o, none⟩ = cs[o]? := by
  simp [World.cell?, h]
theorem blk_free {w : World} {b : Nat} {cs : Array Value} {t : TypeId} (h : w.heap[b]? = some (.cells cs t (0, 0))) (o : Nat) : w.frozen? ⟨b, o, none⟩ = false := by
  simp [World.frozen?, h]
theorem blk_set {w : World} {b : Nat} {cs : Array Value} {t : TypeId} {fz : Nat × Nat} (h : w.heap[b]? = some (.cells cs t fz)) (o : Nat) (u : Value) : (w.setCell ⟨b, o, none⟩ u).heap[b]? = some (.cells (cs.setIfInBounds o u) t fz) := by
  have hlt := lt_of_block h
  have h' : w.heap[b] = .cells cs t fz := by simpa [Array.getElem?_eq_getElem hlt] using h
  show (w.heap.modify b _)[b]? = _
  rw [Array.getElem?_eq_getElem (by simpa using hlt), Array.getElem_modify_self, h']
  rfl
theorem blk_set_other {w : World} {b c o : Nat} (u : Value) (h : b ≠ c) : (w.setCell ⟨c, o, none⟩ u).heap[b]? = w.heap[b]? := Below.heap_setCell w ⟨c, o, none⟩ u b h
theorem blk_alloc {w : World} {b : Nat} (o : Obj) (h : b < w.heap.size) : (w.alloc o).heap[b]? = w.heap[b]? := Below.heap_alloc w o b h
theorem blk_new (w : World) (o : Obj) : (w.alloc o).heap[w.heap.size]? = some o := by
  show (w.heap.push o)[w.heap.size]? = _
  simp
theorem lt_of_cell {w : World} {a : Addr} {v : Value} (h : w.cell? a = some v) : a.block < w.heap.size := by
  unfold World.cell? at h
  split at h
  · rename_i e; exact lt_of_block e
  · cases h
theorem Below.drewN {B : Nat} {a w : World} (h : Below B a w) (n : Nat) : Below B a (w.drewN n) := ⟨h.os, h.tape, h.output, h.size, h.block⟩

/-- A row of m orders in block g, writable, the first k of them z 0, z 1, .. -/
def Fill (W : World) (g m k : Nat) (z : Nat → Int) : Prop :=
  ∃ cur, W.heap[g]? = some (.cells cur 26 (0, 0)) ∧ cur.size = m ∧ ∀ j, j < k → W.cell? ⟨g, j, none⟩ = some (.int .i64 (z j))

theorem Fill.start {W : World} {g n : Nat} {c c' : Nat} {xs : List Value} {z : Nat → Int} {base : Nat} (h : W.ownsRow base 26 1 (.slice (some ⟨g, 0, none⟩) c c') n xs) (hc : n = c') : Fill W g n 0 z := by
  subst hc
  obtain ⟨_, h | ⟨g', cap, cur, hv, _, hh, _, _, hs, _⟩⟩ := h
  · exact absurd h.1 (by simp)
  · simp at hv
    obtain ⟨rfl, rfl, rfl⟩ := hv
    exact ⟨cur, hh, by simpa using hs, fun j h => absurd h (by omega)⟩
theorem Fill.free {W : World} {g m k : Nat} {z : Nat → Int} (h : Fill W g m k z) (o : Nat) : W.frozen? ⟨g, o, none⟩ = false := by
  obtain ⟨cur, hh, _, _⟩ := h
  exact blk_free hh o
theorem Fill.there {W : World} {g m k : Nat} {z : Nat → Int} (h : Fill W g m k z) {o : Nat} (ho : o < m) : ∃ v, W.cell? ⟨g, o, none⟩ = some v := by
  obtain ⟨cur, hh, hs, _⟩ := h
  rw [blk_cell hh]
  exact ⟨cur[o]'(by omega), Array.getElem?_eq_getElem (by omega)⟩
theorem Fill.lt {W : World} {g m k : Nat} {z : Nat → Int} (h : Fill W g m k z) : g < W.heap.size := by
  obtain ⟨cur, hh, _, _⟩ := h
  exact lt_of_block hh
theorem Fill.step {W : World} {g m k : Nat} {z : Nat → Int} (h : Fill W g m k z) (hk : k < m) : Fill (W.setCell ⟨g, k, none⟩ (.int .i64 (z k))) g m (k + 1) z := by
  obtain ⟨cur, hh, hs, hl⟩ := h
  have h3 := blk_set hh k (.int .i64 (z k))
  refine ⟨_, h3, by simpa using hs, fun j hj => ?_⟩
  rw [blk_cell h3]
  by_cases e : j = k
  · subst e
    simp [Array.getElem?_setIfInBounds]
    omega
  · have g1 := hl j (by omega)
    rw [blk_cell hh] at g1
    rw [Array.getElem?_setIfInBounds_ne (by omega)]
    exact g1
theorem Fill.kept {W W' : World} {g m k : Nat} {z : Nat → Int} (h : Fill W g m k z) (he : W'.heap[g]? = W.heap[g]?) : Fill W' g m k z := by
  obtain ⟨cur, hh, hs, hl⟩ := h
  refine ⟨cur, he.trans hh, hs, fun j hj => ?_⟩
  rw [World.cell?_of_block (w := W) (a := ⟨g, j, none⟩) he]
  exact hl j hj

/-- What a slice value that owns its row looks like. -/
theorem own_form {w : World} {base : Nat} {e : TypeId} {size : Nat} {v : Value} {n : Nat} {xs : List Value} (h : w.ownsRow base e size v n xs) :
    ∃ ao cap, v = .slice ao n cap ∧ n ≤ cap ∧ cap ≤ maxLen ∧ (0 < n → ∃ g cur, ao = some ⟨g, 0, none⟩ ∧ base ≤ g ∧ w.heap[g]? = some (.cells cur e (0, 0)) ∧ cur.size = cap * size ∧ ∀ j, j < n * size → w.cell? ⟨g, j, none⟩ = xs[j]?) := by
  have h' := h
  obtain ⟨_, ⟨rfl, rfl⟩ | ⟨g, cap, cur, rfl, hb, hh, hn, hm, hs, _⟩⟩ := h
  · exact ⟨none, 0, rfl, Nat.le_refl _, Nat.zero_le _, fun h => absurd h (by omega)⟩
  · exact ⟨_, cap, rfl, hn, hm, fun _ => ⟨g, cur, rfl, hb, hh, hs, fun j hj => h'.cellAt j hj⟩⟩

/-- The slice c holds the m orders z 0, z 1, .. in a block from 'base' on. -/
def Orders (W : World) (base : Nat) (ao : Option Addr) (m cap : Nat) (z : Nat → Int) : Prop :=
  m ≤ cap ∧ cap ≤ maxLen ∧ (0 < m → ∃ g cur, ao = some ⟨g, 0, none⟩ ∧ base ≤ g ∧ W.heap[g]? = some (.cells cur 26 (0, 0)) ∧ cur.size = cap ∧ ∀ j, j < m → W.cell? ⟨g, j, none⟩ = some (.int .i64 (z j)))

theorem Orders.kept {W W' : World} {base B : Nat} {ao : Option Addr} {m cap : Nat} {z : Nat → Int} (h : Orders W base ao m cap z) (hb : Below B W W') (hB : W.heap.size ≤ B) : Orders W' base ao m cap z := by
  refine ⟨h.1, h.2.1, fun hm => ?_⟩
  obtain ⟨g, cur, rfl, h1, h2, h3, h4⟩ := h.2.2 hm
  have he := hb.block g (Nat.lt_of_lt_of_le (lt_of_block h2) hB)
  refine ⟨g, cur, rfl, h1, he.trans h2, h3, fun j hj => ?_⟩
  rw [World.cell?_of_block (w := W) (a := ⟨g, j, none⟩) he]
  exact h4 j hj

theorem Orders.lt {W : World} {base : Nat} {ao : Option Addr} {m cap : Nat} {z : Nat → Int} (h : Orders W base ao m cap z) (hm : 0 < m) : ∃ g, ao = some ⟨g, 0, none⟩ ∧ base ≤ g ∧ g < W.heap.size := by
  obtain ⟨g, cur, rfl, h1, h2, _⟩ := h.2.2 hm
  exact ⟨g, rfl, h1, lt_of_block h2⟩

/-- A row's numbers as cells. -/
def nums (m : Nat) (z : Nat → Int) : List Value := (List.range m).map fun j => Value.int .i64 (z j)
theorem nums_length (m : Nat) (z : Nat → Int) : (nums m z).length = m := by simp [nums]
theorem nums_at (m : Nat) (z : Nat → Int) (j : Nat) (h : j < m) : (nums m z)[j]? = some (.int .i64 (z j)) := by simp [nums, h]
theorem nums_one (m : Nat) (z : Nat → Int) : ∀ u ∈ nums m z, u.oneCell' = true := by
  intro u hu
  simp only [nums, List.mem_map] at hu
  obtain ⟨_, _, rfl⟩ := hu
  rfl
theorem Orders.of {W : World} {base : Nat} {v : Value} {m : Nat} {z : Nat → Int} (h : W.ownsRow base 26 1 v m (nums m z)) : ∃ ao cap, v = .slice ao m cap ∧ Orders W base ao m cap z := by
  obtain ⟨ao, cap, rfl, h1, h2, h3⟩ := own_form h
  refine ⟨ao, cap, rfl, h1, h2, fun hm => ?_⟩
  obtain ⟨g, cur, rfl, h4, h5, h6, h7⟩ := h3 hm
  refine ⟨g, cur, rfl, h4, h5, by simpa using h6, fun j hj => ?_⟩
  rw [h7 j (by omega)]
  exact nums_at m z j hj
end Go.Proofs.Ybulkbzre.Parts
