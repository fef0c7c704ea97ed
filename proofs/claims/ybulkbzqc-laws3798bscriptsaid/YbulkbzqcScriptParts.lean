/- LawS3798BScript: what holds between two steps of the script, and what each method of dashText does to it. -/
import Derived.Test.YbulkbzqcDashRest
namespace Go.Proofs.Ybulkbzqc.Script
open Go.RowKit Go.Proofs.Ybulkbzqc.Mem Go.Proofs.Ybulkbzqc.Txt Go.Proofs.Ybulkbzqc.Dash

/-- The dashText in block T holds the text X; the model m holds M; neither touches the other's memory nor what was there at the call. -/
def Inv (w0 w : World) (T : Nat) (src : ByteArray) (st en : Nat) (cp : Bool) (v : Value) (l : List UInt8) (m : Value) (M X : List UInt8) : Prop :=
  Dash w T src st en cp v l ∧ st ≤ en ∧ en ≤ src.size ∧ text src st en cp l = X ∧ Txt w m M ∧
  (∀ g, m.ownBlock = some g → w0.heap.size ≤ g ∧ g ≠ T ∧ v.ownBlock ≠ some g) ∧ (∀ g, v.ownBlock = some g → w0.heap.size ≤ g) ∧ w0.heap.size ≤ T ∧ Below w0.heap.size w0 w

theorem Inv.call {w0 w w' : World} {T : Nat} {src : ByteArray} {st en st' en' : Nat} {cp cp' : Bool} {v v' : Value} {l l' : List UInt8} {m : Value} {M X X' : List UInt8}
    (h : Inv w0 w T src st en cp v l m M X) (hD : Dash w' T src st' en' cp' v' l') (h1 : st' ≤ en') (h2 : en' ≤ src.size) (h3 : text src st' en' cp' l' = X') (hc : Chg w w' (fun k => k = T ∨ v.ownBlock = some k)) (hl : Lies w v v') :
    Inv w0 w' T src st' en' cp' v' l' m M X' := by
  obtain ⟨_, _, _, _, i5, i6, i7, i8, i9⟩ := h
  refine ⟨hD, h1, h2, h3, i5.kept hc (fun k hk hs => ?_), fun g hg => ⟨(i6 g hg).1, (i6 g hg).2.1, fun e => ?_⟩, fun g hg => ?_, i8, i9.trans (hc.below i9.size (fun i hi => ?_))⟩
  · rcases hs with hs | hs
    · exact (i6 k hk).2.1 hs
    · exact (i6 k hk).2.2 hs
  · rcases hl with hl | ⟨x, hl, hx⟩
    · exact (i6 g hg).2.2 (hl ▸ e)
    · have hlt := i5.lt hg
      rw [hl] at e
      simp at e
      omega
  · rcases hl with hl | ⟨x, hl, hx⟩
    · exact i7 g (hl ▸ hg)
    · rw [hl] at hg
      simp at hg
      have := i9.size
      omega
  · rcases hi with rfl | hi
    · exact i8
    · exact i7 i hi

theorem Inv.model {w0 w w' : World} {T : Nat} {src : ByteArray} {st en : Nat} {cp : Bool} {v : Value} {l : List UInt8} {m m' : Value} {M M' X : List UInt8}
    (h : Inv w0 w T src st en cp v l m M X) (ht : Txt w' m' M') (hc : Chg w w' (fun k => m.ownBlock = some k)) (hl : m'.ownBlock = m.ownBlock ∨ m'.ownBlock = some w.heap.size) :
    Inv w0 w' T src st en cp v l m' M' X := by
  obtain ⟨⟨d1, d2, d3⟩, i2, i3, i4, i5, i6, i7, i8, i9⟩ := h
  have hTlt := lt_of_block d1
  refine ⟨⟨(hc.block T hTlt (fun e => (i6 T e).2.1 rfl)).trans d1, d2.kept hc (fun k hk hs => (i6 k hs).2.2 hk), d3⟩, i2, i3, i4, ht, fun g hg => ?_, i7, i8, i9.trans (hc.below i9.size (fun i hi => (i6 i hi).1))⟩
  rcases hl with hl | hl
  · exact i6 g (hl ▸ hg)
  · rw [hl] at hg
    simp at hg
    have := i9.size
    refine ⟨by omega, by omega, fun e => ?_⟩
    have := d2.lt e
    omega

theorem Inv.cut {w0 w : World} {T : Nat} {src : ByteArray} {st en : Nat} {cp : Bool} {v : Value} {l : List UInt8} {ao : Option Addr} {n c : Nat} {M X : List UInt8}
    (h : Inv w0 w T src st en cp v l (.slice ao n c) M X) : Inv w0 w T src st en cp v l (.slice ao 0 c) [] X := by
  obtain ⟨i1, i2, i3, i4, i5, i6, i7, i8, i9⟩ := h
  exact ⟨i1, i2, i3, i4, i5.cutAny, fun g hg => i6 g (by rw [own_slice ao n c 0 c]; exact hg), i7, i8, i9⟩

theorem Inv.alloc {w0 w : World} {T : Nat} {src : ByteArray} {st en : Nat} {cp : Bool} {v : Value} {l : List UInt8} {m : Value} {M X : List UInt8}
    (h : Inv w0 w T src st en cp v l m M X) (o : Obj) : Inv w0 (w.alloc o) T src st en cp v l m M X := by
  obtain ⟨⟨d1, d2, d3⟩, i2, i3, i4, i5, i6, i7, i8, i9⟩ := h
  exact ⟨⟨(blk_alloc o (lt_of_block d1)).trans d1, d2.kept (Chg.alloc w o (fun _ => False)) (fun _ _ h => h), d3⟩, i2, i3, i4, i5.kept (Chg.alloc w o (fun _ => False)) (fun _ _ h => h), i6, i7, i8, i9.alloc i9.size o⟩

theorem Inv.drewN {w0 w : World} {T : Nat} {src : ByteArray} {st en : Nat} {cp : Bool} {v : Value} {l : List UInt8} {m : Value} {M X : List UInt8}
    (h : Inv w0 w T src st en cp v l m M X) (q : Nat) : Inv w0 (w.drewN q) T src st en cp v l m M X := by
  obtain ⟨i1, i2, i3, i4, i5, i6, i7, i8, i9⟩ := h
  exact ⟨i1, i2, i3, i4, i5, i6, i7, i8, ⟨i9.os, i9.tape, i9.output, i9.size, i9.block⟩⟩

/-- The beginning. -/
theorem Inv.start (w : World) (src : ByteArray) :
    Inv w (w.alloc (.cells #[.string src, .int .i64 0, .int .i64 0, .bool false, .slice none 0 0] 28)) w.heap.size src 0 0 false (.slice none 0 0) [] (.slice none 0 0) [] [] := by
  refine ⟨⟨blk_new w _, Txt.nil _, by simp [Value.ownBlock]⟩, Nat.le_refl _, Nat.zero_le _, ?_, Txt.nil _, fun g hg => by simp [Value.ownBlock] at hg, fun g hg => by simp [Value.ownBlock] at hg, Nat.le_refl _, (Below.refl _ _).alloc (Nat.le_refl _) _⟩
  simp [text]

theorem text_len {src : ByteArray} (f t : Nat) (h : src.size ≤ 1024) : (src.extract f t).data.toList.length ≤ 1024 := by
  rw [Array.length_toList]
  show (src.extract f t).size ≤ 1024
  simp
  omega

theorem extract_join (src : ByteArray) (a b c : Nat) (h1 : a ≤ b) (h2 : b ≤ c) : (src.extract a c).data.toList = (src.extract a b).data.toList ++ (src.extract b c).data.toList := by
  simp only [ByteArray.data_extract, Array.toList_extract, List.extract_eq_take_drop]
  have e1 : c - a = (b - a) + (c - b) := by omega
  rw [e1, List.take_add, List.drop_drop, show a + (b - a) = b by omega]

/-- add. -/
theorem add_inv (w0 w : World) (T : Nat) (src : ByteArray) (st en : Nat) (cp : Bool) (v : Value) (l : List UInt8) (m : Value) (M X : List UInt8) (h : Inv w0 w T src st en cp v l m M X) (f t : Nat) (h1 : f ≤ t) (h2 : t ≤ src.size) (h3 : src.size ≤ 1024) (hX : X.length ≤ 1099511627776) :
    Calls Yba.prog 6 #[.pointer (some ⟨T, 0, none⟩), .int .i64 (f : Int), .int .i64 (t : Int)] w fun e w' => e = .returned (.tuple #[]) ∧ ∃ st' en' cp' v' l', Inv w0 w' T src st' en' cp' v' l' m M (X ++ (src.extract f t).data.toList) := by
  have hD := h.1
  have g1 := h.2.1
  have g2 := h.2.2.1
  have hx := h.2.2.2.1
  cases cp
  · by_cases hse : st = en
    · subst hse
      refine (add_first w T src st v l hD f t).mono ?_
      rintro e w' ⟨rfl, z1, z2⟩
      refine ⟨rfl, f, t, false, v, l, h.call z1 h1 h2 ?_ z2 (.inl rfl)⟩
      rw [← hx]
      simp [text]
    · by_cases hef : en = f
      · subst hef
        refine (add_next w T src st en v l hD t hse).mono ?_
        rintro e w' ⟨rfl, z1, z2⟩
        refine ⟨rfl, st, t, false, v, l, h.call z1 (by omega) h2 ?_ z2 (.inl rfl)⟩
        rw [← hx]
        exact extract_join src st en t g1 h1
      · refine (add_apart w T src st en v l hD f t h1 h2 h3 g1 g2 hse hef).mono ?_
        rintro e w' ⟨rfl, v', z1, z2, z3⟩
        exact ⟨rfl, st, en, true, v', _, h.call z1 g1 g2 (by rw [← hx]; rfl) z2 z3⟩
  · have hlX : l = X := hx
    subst hlX
    refine (add_copied w T src st en v l hD f t h1 h2 h3 hX).mono ?_
    rintro e w' ⟨rfl, v', z1, z2, z3⟩
    exact ⟨rfl, st, en, true, v', _, h.call z1 g1 g2 rfl z2 z3⟩

/-- addString. -/
theorem addString_inv (w0 w : World) (T : Nat) (src : ByteArray) (st en : Nat) (cp : Bool) (v : Value) (l : List UInt8) (m : Value) (M X : List UInt8) (h : Inv w0 w T src st en cp v l m M X) (s : ByteArray) (hs : s.size ≤ 1024) (h3 : src.size ≤ 1024) (hX : X.length ≤ 1099511627776) :
    Calls Yba.prog 7 #[.pointer (some ⟨T, 0, none⟩), .string s] w fun e w' => e = .returned (.tuple #[]) ∧ ∃ v' l', Inv w0 w' T src st en true v' l' m M (X ++ s.data.toList) ∧ Chg w w' (fun k => k = T ∨ v.ownBlock = some k) := by
  have hD := h.1
  have g1 := h.2.1
  have g2 := h.2.2.1
  have hx := h.2.2.2.1
  cases cp
  · refine (addString_whole w T src st en v l s hD g1 g2 h3 hs).mono ?_
    rintro e w' ⟨rfl, v', z1, z2, z3⟩
    exact ⟨rfl, v', _, h.call z1 g1 g2 (by rw [← hx]; rfl) z2 z3, z2⟩
  · have hlX : l = X := hx
    subst hlX
    refine (addString_copied w T src st en v l s hD hs hX).mono ?_
    rintro e w' ⟨rfl, v', z1, z2, z3⟩
    exact ⟨rfl, v', _, h.call z1 g1 g2 rfl z2 z3, z2⟩

/-- A step of the script, laid in a block of its own, is there behind the call. -/
theorem step_kept {w w' : World} {T : Nat} {v : Value} {o : Obj} (hc : Chg (w.alloc o) w' (fun k => k = T ∨ v.ownBlock = some k)) (hT : T < w.heap.size) (hv : ∀ g, v.ownBlock = some g → g < w.heap.size) : w'.heap[w.heap.size]? = some o :=
  (hc.block w.heap.size (by simp) (fun h => by
    rcases h with h | h
    · omega
    · have := hv _ h
      omega)).trans (blk_new w o)

/-- reset. -/
theorem reset_inv (w0 w : World) (T : Nat) (src : ByteArray) (st en : Nat) (cp : Bool) (v : Value) (l : List UInt8) (m : Value) (M X : List UInt8) (h : Inv w0 w T src st en cp v l m M X) :
    Calls Yba.prog 8 #[.pointer (some ⟨T, 0, none⟩)] w fun e w' => e = .returned (.tuple #[]) ∧ ∃ v', Inv w0 w' T src 0 0 false v' [] m M [] := by
  refine (reset_calls w T src st en cp v l h.1).mono ?_
  rintro e w' ⟨rfl, v', z1, z2, z3⟩
  exact ⟨rfl, v', h.call z1 (Nat.le_refl _) (Nat.zero_le _) (by simp [text]) z2 z3⟩

/-- string. -/
theorem string_inv (w0 w : World) (T : Nat) (src : ByteArray) (st en : Nat) (cp : Bool) (v : Value) (l : List UInt8) (m : Value) (M X : List UInt8) (h : Inv w0 w T src st en cp v l m M X) :
    Calls Yba.prog 9 #[.pointer (some ⟨T, 0, none⟩)] w fun e w' => e = .returned (.string ⟨X.toArray⟩) ∧ ∃ nq, w' = w.drewN nq := by
  have hs := string_calls w T src st en cp v l h.1 h.2.1 h.2.2.1
  rw [h.2.2.2.1] at hs
  exact hs
end Go.Proofs.Ybulkbzqc.Script
