/- LawS3800CSend: what lies in memory behind the call of send, and what leaves it so. -/
import Derived.Test.YbulkbzreParts
namespace Go.Proofs.Ybulkbzre.Sent
open Go.RowKit Go.Proofs.Ybulkbzre.Parts

/-- The general in block F, its W in block G, the q messages (the value vo) that share the orders c. -/
def Core (w wr : World) (F G : Nat) (id : Int) (n m : Nat) (z : Nat → Int) (vo : Option Addr) (q : Nat) (ao : Option Addr) (cap : Nat) : Prop :=
  wr.heap[F]? = some (.cells #[.int .i64 id, .int .i64 (n : Int), .int .i64 3, .slice (some ⟨G, 0, none⟩) m m, .slice none 0 0] 29 (0, 0)) ∧
  Fill wr G m m z ∧ G < F ∧ w.heap.size ≤ F ∧ Below w.heap.size w wr ∧
  (0 < q → ∃ go cur, vo = some ⟨go, 0, none⟩ ∧ F < go ∧ (0 < m → ao ≠ some ⟨go, 0, none⟩) ∧ wr.heap[go]? = some (.cells cur 33 (0, 0)) ∧
    ∀ k, k < q → wr.cell? ⟨go, k * 2, none⟩ = some (.int .i64 (dest id k : Int)) ∧ wr.cell? ⟨go, k * 2 + 1, none⟩ = some (.slice ao m cap))

section
variable {w wr : World} {F G : Nat} {id : Int} {n m : Nat} {z : Nat → Int} {vo : Option Addr} {q : Nat} {ao : Option Addr} {cap : Nat}

theorem Core.moved {w' : World} (h : Core w wr F G id n m z vo q ao cap) (hb : Below w.heap.size w w') (hF : w'.heap[F]? = wr.heap[F]?) (hG : w'.heap[G]? = wr.heap[G]?) (ho : ∀ go, vo = some ⟨go, 0, none⟩ → go < wr.heap.size → (0 < m → ao ≠ some ⟨go, 0, none⟩) → F < go → w'.heap[go]? = wr.heap[go]?) :
    Core w w' F G id n m z vo q ao cap := by
  obtain ⟨h1, h2, h3, h4, _, h6⟩ := h
  refine ⟨hF.trans h1, h2.kept hG, h3, h4, hb, fun hq => ?_⟩
  obtain ⟨go, cur, rfl, g1, g2, g3, g4⟩ := h6 hq
  have he := ho go rfl (lt_of_block g3) g2 g1
  refine ⟨go, cur, rfl, g1, g2, he.trans g3, fun k hk => ?_⟩
  rw [World.cell?_of_block (w := wr) (a := ⟨go, k * 2, none⟩) he, World.cell?_of_block (w := wr) (a := ⟨go, k * 2 + 1, none⟩) he]
  exact g4 k hk

theorem Core.alloc (h : Core w wr F G id n m z vo q ao cap) (o : Obj) : Core w (wr.alloc o) F G id n m z vo q ao cap :=
  h.moved (h.2.2.2.2.1.alloc h.2.2.2.2.1.size o) (blk_alloc o (lt_of_block h.1)) (blk_alloc o h.2.1.lt) (fun _ _ hl _ _ => blk_alloc o hl)

theorem Core.drewN (h : Core w wr F G id n m z vo q ao cap) (k : Nat) : Core w (wr.drewN k) F G id n m z vo q ao cap :=
  h.moved (Below.drewN h.2.2.2.2.1 k) rfl rfl (fun _ _ _ _ _ => rfl)

theorem Core.setCell (h : Core w wr F G id n m z vo q ao cap) {g : Nat} (hg : ao = some ⟨g, 0, none⟩) (hm : 0 < m) (hF : F < g) (u : Value) : Core w (wr.setCell ⟨g, 0, none⟩ u) F G id n m z vo q ao cap := by
  have h3 := h.2.2.1
  have h4 := h.2.2.2.1
  refine h.moved (h.2.2.2.2.1.setCell (p := ⟨g, 0, none⟩) (by show _ ≤ g; omega) u) (blk_set_other u (by omega)) (blk_set_other u (by omega)) (fun go _ _ hne _ => blk_set_other u ?_)
  rintro rfl
  exact hne hm hg

/-- The shared orders, of which the first may have turned. -/
def Shared (wr : World) (F : Nat) (ao : Option Addr) (m : Nat) : Prop := 0 < m → ∃ g x, ao = some ⟨g, 0, none⟩ ∧ F < g ∧ wr.cell? ⟨g, 0, none⟩ = some (.int .i64 x) ∧ wr.frozen? ⟨g, 0, none⟩ = false

theorem Shared.of (h : Orders wr (F + 1) ao m cap z) : Shared wr F ao m := by
  intro hm
  obtain ⟨g, cur, rfl, h1, h2, _, h4⟩ := h.2.2 hm
  exact ⟨g, z 0, rfl, by omega, h4 0 hm, blk_free h2 0⟩

theorem Shared.stored {g : Nat} {x : Int} (hao : ao = some ⟨g, 0, none⟩) (hF : F < g) (hc : wr.cell? ⟨g, 0, none⟩ = some (.int .i64 x)) (hf : wr.frozen? ⟨g, 0, none⟩ = false) (y : Int) : Shared (wr.setCell ⟨g, 0, none⟩ (.int .i64 y)) F ao m := by
  intro _
  refine ⟨g, y, hao, hF, ?_, ?_⟩
  · have hb : ∃ cs t fz, wr.heap[g]? = some (.cells cs t fz) := by
      unfold World.cell? at hc
      split at hc
      · rename_i c t f e; exact ⟨c, t, f, e⟩
      · cases hc
    obtain ⟨cs, t, fz, e⟩ := hb
    rw [blk_cell (blk_set e 0 _)]
    rw [blk_cell e] at hc
    have : 0 < cs.size := (Array.getElem?_eq_some_iff.1 hc).1
    simp [this]
  · rw [World.frozen?_setCell]
    exact hf
theorem Shared.again {g : Nat} (h : Shared wr F (some ⟨g, 0, none⟩) m) (hm : 0 < m) (y : Int) : Shared (wr.setCell ⟨g, 0, none⟩ (.int .i64 y)) F (some ⟨g, 0, none⟩) m := by
  obtain ⟨g', x, e, h1, h2, h3⟩ := h hm
  obtain rfl : g = g' := by simpa using e
  exact Shared.stored rfl h1 h2 h3 y
theorem Shared.drewN (h : Shared wr F ao m) (k : Nat) : Shared (wr.drewN k) F ao m := h

/-- Behind the call of send. -/
theorem core_of {w wr w2 : World} {id : Int} {n m cap B : Nat} {z : Nat → Int} {v : Value} {ao : Option Addr} (hF : Fill wr w.heap.size m m z) (hB : Below w.heap.size w wr)
    (hown : w2.ownsRow B 33 2 v (cnt id n) (msgs id (.slice ao m cap) (cnt id n)))
    (hor : Orders w2 (wr.alloc (.cells #[.int .i64 id, .int .i64 (n : Int), .int .i64 3, .slice (some ⟨w.heap.size, 0, none⟩) m m, .slice none 0 0] 29)).heap.size ao m cap z)
    (hao : 0 < m → ∃ h, ao = some ⟨h, 0, none⟩ ∧ h < B) (hBB : (wr.alloc (.cells #[.int .i64 id, .int .i64 (n : Int), .int .i64 3, .slice (some ⟨w.heap.size, 0, none⟩) m m, .slice none 0 0] 29)).heap.size ≤ B)
    (hbel : Below (wr.alloc (.cells #[.int .i64 id, .int .i64 (n : Int), .int .i64 3, .slice (some ⟨w.heap.size, 0, none⟩) m m, .slice none 0 0] 29)).heap.size (wr.alloc (.cells #[.int .i64 id, .int .i64 (n : Int), .int .i64 3, .slice (some ⟨w.heap.size, 0, none⟩) m m, .slice none 0 0] 29)) w2) :
    ∃ vo vc, v = .slice vo (cnt id n) vc ∧ cnt id n ≤ vc ∧ Core w w2 wr.heap.size w.heap.size id n m z vo (cnt id n) ao cap ∧ Orders w2 (wr.heap.size + 1) ao m cap z := by
  have hs : (wr.alloc (.cells #[.int .i64 id, .int .i64 (n : Int), .int .i64 3, .slice (some ⟨w.heap.size, 0, none⟩) m m, .slice none 0 0] 29)).heap.size = wr.heap.size + 1 := by simp
  rw [hs] at hor hBB hbel
  obtain ⟨vo, vc, rfl, h1, _, h3⟩ := own_form hown
  refine ⟨vo, vc, rfl, h1, ⟨(hbel.block wr.heap.size (by omega)).trans (blk_new wr _), hF.kept ((hbel.block w.heap.size (by have := hF.lt; omega)).trans (blk_alloc _ hF.lt)), hF.lt, hB.size, (hB.alloc hB.size _).trans (hbel.mono (by have := hB.size; omega)), fun hq => ?_⟩, hor⟩
  obtain ⟨go, cur, rfl, g1, g2, _, g4⟩ := h3 hq
  refine ⟨go, cur, rfl, by omega, fun hm e => ?_, g2, fun k hk => ⟨?_, ?_⟩⟩
  · obtain ⟨h', e', hl⟩ := hao hm
    have := Option.some.inj (e.symm.trans e')
    simp only [Addr.mk.injEq] at this
    omega
  · rw [g4 (k * 2) (by omega)]
    exact msgs_to _ _ _ _ hk
  · rw [g4 (k * 2 + 1) (by omega)]
    exact msgs_seen _ _ _ _ hk
end
end Go.Proofs.Ybulkbzre.Sent
