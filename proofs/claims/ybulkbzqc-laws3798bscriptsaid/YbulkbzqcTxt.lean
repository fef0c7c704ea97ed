/- Plain laws on a slice of bytes that the call itself made: what it holds, behind an append of a string, a cut to nothing, a conversion. Over whatever program. -/
import Derived.Test.YbulkbzqcMem
import Derived.Lib.AppendStr
import Derived.Laws.IdiomStrings
import Derived.Laws.IdiomCopy
import Derived.Laws.BytesArg
import Derived.RegionTactic
namespace Go.Proofs.Ybulkbzqc.Txt
open Go.RowKit Go.Proofs.Ybulkbzqc.Mem

/-- The slice value v holds the bytes l: nil and none; or it stands at the head of a block all of whose cells up to its capacity are there and may be written. -/
def Txt (w : World) (v : Value) (l : List UInt8) : Prop :=
  (v = .slice none 0 0 ∧ l = []) ∨
  ∃ g cap, v = .slice (some ⟨g, 0, none⟩) l.length cap ∧ l.length ≤ cap ∧ cap ≤ maxLen ∧ g < w.heap.size ∧
    (∀ j, j < cap → (w.cell? ⟨g, j, none⟩).isSome = true ∧ w.frozen? ⟨g, j, none⟩ = false) ∧
    (∀ j (h : j < l.length), w.cell? ⟨g, j, none⟩ = some (.int .u8 (l[j].toNat : Int)))

/-- Of what was there nothing has turned but the blocks of S. -/
structure Chg (w w' : World) (S : Nat → Prop) : Prop where
  os : w'.os = w.os
  tape : w'.tape = w.tape
  output : w'.output = w.output
  size : w.heap.size ≤ w'.heap.size
  block : ∀ k, k < w.heap.size → ¬ S k → w'.heap[k]? = w.heap[k]?

theorem Chg.refl (w : World) (S : Nat → Prop) : Chg w w S := ⟨rfl, rfl, rfl, Nat.le_refl _, fun _ _ _ => rfl⟩
theorem Chg.trans {a b c : World} {S U : Nat → Prop} (h : Chg a b S) (k : Chg b c U) (hU : ∀ i, i < a.heap.size → U i → S i) : Chg a c S :=
  ⟨k.os.trans h.os, k.tape.trans h.tape, k.output.trans h.output, Nat.le_trans h.size k.size, fun i hi hs => (k.block i (Nat.lt_of_lt_of_le hi h.size) (fun u => hs (hU i hi u))).trans (h.block i hi hs)⟩
theorem Chg.mono {a b : World} {S U : Nat → Prop} (h : Chg a b S) (hU : ∀ i, i < a.heap.size → S i → U i) : Chg a b U :=
  ⟨h.os, h.tape, h.output, h.size, fun i hi hs => h.block i hi (fun u => hs (hU i hi u))⟩
theorem Chg.drewN (w : World) (n : Nat) (S : Nat → Prop) : Chg w (w.drewN n) S := ⟨rfl, rfl, rfl, Nat.le_refl _, fun _ _ _ => rfl⟩
theorem Chg.setCell (w : World) (b o : Nat) (u : Value) {S : Nat → Prop} (h : S b) : Chg w (w.setCell ⟨b, o, none⟩ u) S :=
  ⟨rfl, rfl, rfl, by simp [World.setCell], fun k _ hs => blk_set_other u (fun e => hs (e ▸ h))⟩
theorem Chg.alloc (w : World) (o : Obj) (S : Nat → Prop) : Chg w (w.alloc o) S := ⟨rfl, rfl, rfl, by simp, fun _ hk _ => blk_alloc o hk⟩
theorem Chg.below {w w' : World} {S : Nat → Prop} {B : Nat} (h : Chg w w' S) (hB : B ≤ w.heap.size) (hS : ∀ i, S i → B ≤ i) : Below B w w' :=
  ⟨h.os, h.tape, h.output, h.size, fun k hk => h.block k (by omega) (fun s => by have := hS k s; omega)⟩

theorem Txt.kept {w w' : World} {v : Value} {l : List UInt8} {S : Nat → Prop} (h : Txt w v l) (c : Chg w w' S) (hS : ∀ k, v.ownBlock = some k → ¬ S k) : Txt w' v l := by
  rcases h with h | ⟨g, cap, rfl, h1, h2, h3, h4, h5⟩
  · exact .inl h
  · have hb := c.block g h3 (hS g rfl)
    refine .inr ⟨g, cap, rfl, h1, h2, Nat.lt_of_lt_of_le h3 c.size, fun j hj => ?_, fun j hj => ?_⟩
    · rw [World.cell?_of_block (w := w) (a := ⟨g, j, none⟩) hb, World.frozen?_of_block (w := w) (a := ⟨g, j, none⟩) hb]; exact h4 j hj
    · rw [World.cell?_of_block (w := w) (a := ⟨g, j, none⟩) hb]; exact h5 j hj

theorem Txt.nil (w : World) : Txt w (.slice none 0 0) [] := .inl ⟨rfl, rfl⟩

theorem Txt.lt {w : World} {v : Value} {l : List UInt8} (h : Txt w v l) {k : Nat} (hk : v.ownBlock = some k) : k < w.heap.size := by
  rcases h with ⟨rfl, _⟩ | ⟨g, cap, rfl, _, _, h3, _⟩
  · simp [Value.ownBlock] at hk
  · simp [Value.ownBlock] at hk; omega

/-- What v looks like. -/
theorem Txt.shape {w : World} {v : Value} {l : List UInt8} (h : Txt w v l) : (v = .slice none 0 0 ∧ l = []) ∨ ∃ g cap, v = .slice (some ⟨g, 0, none⟩) l.length cap ∧ l.length ≤ cap ∧ cap ≤ maxLen := by
  rcases h with h | ⟨g, cap, rfl, h1, h2, _⟩
  · exact .inl h
  · exact .inr ⟨g, cap, rfl, h1, h2⟩

/-- 'v[:0]'. -/
theorem Txt.cut {w : World} {g n cap : Nat} {l : List UInt8} (h : Txt w (.slice (some ⟨g, 0, none⟩) n cap) l) : Txt w (.slice (some ⟨g, 0, none⟩) 0 cap) [] := by
  rcases h with h | ⟨g', cap', he, h1, h2, h3, h4, h5⟩
  · exact absurd h.1 (by simp)
  · simp at he
    obtain ⟨rfl, rfl, rfl⟩ := he
    exact .inr ⟨g, cap, rfl, Nat.zero_le _, h2, h3, h4, fun j hj => absurd hj (by simp)⟩

theorem own_slice (ao : Option Addr) (n c n' c' : Nat) : (Value.slice ao n c).ownBlock = (Value.slice ao n' c').ownBlock := by cases ao <;> rfl

/-- What v looks like, both shapes in one. -/
theorem Txt.form {w : World} {v : Value} {l : List UInt8} (h : Txt w v l) : ∃ ao cap, v = .slice ao l.length cap ∧ l.length ≤ cap ∧ cap ≤ maxLen := by
  rcases h with ⟨rfl, rfl⟩ | ⟨g, cap, rfl, h1, h2, _⟩
  · exact ⟨none, 0, rfl, Nat.le_refl _, Nat.zero_le _⟩
  · exact ⟨_, cap, rfl, h1, h2⟩
theorem Txt.cutAny {w : World} {ao : Option Addr} {n cap : Nat} {l : List UInt8} (h : Txt w (.slice ao n cap) l) : Txt w (.slice ao 0 cap) [] := by
  rcases h with ⟨h, rfl⟩ | ⟨g', cap', he, h1, h2, h3, h4, h5⟩
  · simp at h
    obtain ⟨rfl, rfl, rfl⟩ := h
    exact Txt.nil w
  · simp at he
    obtain ⟨rfl, rfl, rfl⟩ := he
    exact .inr ⟨g', cap, rfl, Nat.zero_le _, h2, h3, h4, fun j hj => absurd hj (by simp)⟩

theorem heap_setCells_other (b : Nat) : ∀ (vs : List Value) (o : Nat) (w : World) (k : Nat), k ≠ b → (w.setCells b o vs).heap[k]? = w.heap[k]?
  | [], _, _, _, _ => rfl
  | v :: r, o, w, k, h => by
    show ((w.setCell ⟨b, o, none⟩ v).setCells b (o + 1) r).heap[k]? = _
    rw [heap_setCells_other b r (o + 1) _ k h, blk_set_other v h]
theorem size_setCells (b : Nat) : ∀ (vs : List Value) (o : Nat) (w : World), (w.setCells b o vs).heap.size = w.heap.size
  | [], _, _ => rfl
  | v :: r, o, w => by
    show ((w.setCell ⟨b, o, none⟩ v).setCells b (o + 1) r).heap.size = _
    rw [size_setCells b r (o + 1) _]
    simp [World.setCell]
theorem rest_setCells (b : Nat) : ∀ (vs : List Value) (o : Nat) (w : World), (w.setCells b o vs).os = w.os ∧ (w.setCells b o vs).tape = w.tape ∧ (w.setCells b o vs).output = w.output
  | [], _, _ => ⟨rfl, rfl, rfl⟩
  | v :: r, o, w => by
    show ((w.setCell ⟨b, o, none⟩ v).setCells b (o + 1) r).os = _ ∧ ((w.setCell ⟨b, o, none⟩ v).setCells b (o + 1) r).tape = _ ∧ ((w.setCell ⟨b, o, none⟩ v).setCells b (o + 1) r).output = _
    obtain ⟨h1, h2, h3⟩ := rest_setCells b r (o + 1) (w.setCell ⟨b, o, none⟩ v)
    exact ⟨h1.trans rfl, h2.trans rfl, h3.trans rfl⟩
theorem isSome_setCells (b : Nat) : ∀ (vs : List Value) (o : Nat) (w : World) (x : Nat), (w.cell? ⟨b, x, none⟩).isSome = true → ((w.setCells b o vs).cell? ⟨b, x, none⟩).isSome = true
  | [], _, _, _, h => h
  | v :: r, o, w, x, h => by
    show (((w.setCell ⟨b, o, none⟩ v).setCells b (o + 1) r).cell? ⟨b, x, none⟩).isSome = true
    refine isSome_setCells b r (o + 1) _ x ?_
    obtain ⟨u, hu⟩ := Option.isSome_iff_exists.1 h
    have hc : ∃ cs t fz, w.heap[b]? = some (.cells cs t fz) := by
      unfold World.cell? at hu
      split at hu
      · rename_i c t f e; exact ⟨c, t, f, e⟩
      · cases hu
    obtain ⟨cs, t, fz, e⟩ := hc
    rw [blk_cell e] at hu
    have hx : x < cs.size := (Array.getElem?_eq_some_iff.1 hu).1
    rw [blk_cell (blk_set e o v), Array.getElem?_eq_getElem (by simpa using hx)]
    rfl

section
variable {P : Program}

theorem strCell_get (s : ByteArray) (j : Nat) (hj : j < s.data.toList.length) : (Lib.strCells s)[j]? = some (.int .u8 ((s.data.toList[j]).toNat : Int)) := by
  unfold Lib.strCells
  rw [List.getElem?_map, List.getElem?_eq_getElem hj]
  rfl

theorem strCells_len (s : ByteArray) : (Lib.strCells s).length = s.data.toList.length := by simp [Lib.strCells]

/-- The arm with room. -/
theorem run_append_room (w : World) (t u ty e : TypeId) (i : TypeInfo) (ht : P.underlying t = some (.slice e)) (hu : P.underlying u = some .string) (hi : P.info? e = some i) (hs1 : i.size = 1)
    (g n cap : Nat) (s : ByteArray) (hroom : n + s.size ≤ cap) (hc : ∀ j, j < cap → (w.cell? ⟨g, j, none⟩).isSome = true ∧ w.frozen? ⟨g, j, none⟩ = false) :
    (Builtin.append_ #[t, u] ty #[.slice (some ⟨g, 0, none⟩) n cap, .string s]).run P w = .ok (.slice (some ⟨g, 0, none⟩) (n + s.size) cap) (w.setCells g n (Lib.strCells s)) := by
  have hf := Lib.run_firstCells_string (P := P) w 1 s
  have hl := Lib.strCells_length s
  have hst := run_storeCells_cells (P := P) g n (Lib.strCells s) 0 w (fun j hj => (hc (n + 0 + j) (by omega)).1) (fun j hj => (hc (n + 0 + j) (by omega)).2) (Lib.strCells_oneCell s)
  simp only [Nat.add_zero] at hst
  simp [Builtin.append_, run_underlying ht, run_underlying hu, sizeOf, typeInfo, hi, hs1, Builtin.lenOf, hroom, hf, Addr.add_lit, hst]

/-- THE LAW: 'append(v, s...)'. -/
theorem run_append (w : World) (t u ty e : TypeId) (i : TypeInfo) (ht : P.underlying t = some (.slice e)) (hu : P.underlying u = some .string) (hi : P.info? e = some i) (hz : i.zero = some (.int .u8 0))
    (hs1 : i.size = 1) (hb1 : i.bytes = 1) (v : Value) (l : List UInt8) (h : Txt w v l) (s : ByteArray) (hsz : l.length + s.size ≤ 140737488355328) :
    ∃ v' w', (Builtin.append_ #[t, u] ty #[v, .string s]).run P w = .ok v' w' ∧ Txt w' v' (l ++ s.data.toList) ∧ Chg w w' (fun k => v.ownBlock = some k) ∧ (v'.ownBlock = v.ownBlock ∨ v'.ownBlock = some w.heap.size) := by
  have hss : s.data.toList.length = s.size := by rw [Array.length_toList]; rfl
  have hm : l.length + s.size ≤ maxLen := by unfold maxLen; omega
  -- a new row with the bytes and zeros behind them
  have made : ∀ (c : Nat), l.length + s.size ≤ c → c ≤ maxLen →
      Txt (w.drew.alloc (.cells ((l.map fun b => Value.int .u8 (b.toNat : Int)).toArray ++ (Lib.strCells s).toArray ++ Builtin.zeroCells (Value.int .u8 0).cells (c - (l.length + s.size))) e)) (.slice (some ⟨w.heap.size, 0, none⟩) (l.length + s.size) c) (l ++ s.data.toList) := by
    intro c hc hcm
    have hn := blk_new w.drew (.cells ((l.map fun b => Value.int .u8 (b.toNat : Int)).toArray ++ (Lib.strCells s).toArray ++ Builtin.zeroCells (Value.int .u8 0).cells (c - (l.length + s.size))) e)
    have hn' : (w.drew.alloc (.cells ((l.map fun b => Value.int .u8 (b.toNat : Int)).toArray ++ (Lib.strCells s).toArray ++ Builtin.zeroCells (Value.int .u8 0).cells (c - (l.length + s.size))) e)).heap[w.heap.size]? = some (.cells ((l.map fun b => Value.int .u8 (b.toNat : Int)).toArray ++ (Lib.strCells s).toArray ++ Builtin.zeroCells (Value.int .u8 0).cells (c - (l.length + s.size))) e (0, 0)) := hn
    have hlen : ((l.map fun b => Value.int .u8 (b.toNat : Int)).toArray ++ (Lib.strCells s).toArray ++ Builtin.zeroCells (Value.int .u8 0).cells (c - (l.length + s.size))).size = c := by
      have hz1 : (Value.int IntKind.u8 0).cells.size = 1 := rfl
      simp only [Array.size_append, List.size_toArray, List.length_map, size_zeroCells, hz1, Lib.strCells_length]
      omega
    refine .inr ⟨w.heap.size, c, by rw [List.length_append, hss], by rw [List.length_append, hss]; exact hc, hcm, lt_of_block hn', fun j hj => ⟨?_, blk_free hn' j⟩, fun j hj => ?_⟩
    · rw [blk_cell hn', Array.getElem?_eq_getElem (by rw [hlen]; exact hj)]; rfl
    · rw [blk_cell hn']
      rw [List.length_append] at hj
      rw [Array.getElem?_append_left (by simp [strCells_len]; omega)]
      by_cases hj1 : j < l.length
      · rw [Array.getElem?_append_left (by simpa using hj1)]
        simp [hj1]
      · rw [Array.getElem?_append_right (by simp; omega)]
        have := strCell_get s (j - l.length) (by omega)
        simp only [List.size_toArray, List.length_map, List.getElem?_toArray]
        rw [this]
        rw [List.getElem_append_right (by omega)]
  rcases h with ⟨rfl, rfl⟩ | ⟨g, cap, rfl, h1, h2, h3, h4, h5⟩
  · by_cases hs0 : s.size = 0
    · have hd : s.data.toList = [] := List.eq_nil_of_length_eq_zero (by omega)
      refine ⟨.slice none 0 0, w, ?_, by rw [hd]; exact Txt.nil w, Chg.refl _ _, .inl rfl⟩
      have hf := Lib.run_firstCells_string (P := P) w 1 s
      rw [hs0] at hf
      simp [Builtin.append_, run_underlying ht, run_underlying hu, sizeOf, typeInfo, hi, hs1, Builtin.lenOf, hs0, hf]
    · have hr := run_append_nil_string (P := P) w t u ty e i (.int .u8 0) ht hu hi hz s (by omega) (by simp at hsz; omega) (by simp at hsz; rw [hb1]; omega)
      have hge := grownCap_ge w s.size 0 e
      have hcm := grownCap_le_maxLen w s.size 0 e (by simpa using hm)
      have hT := made (grownCap w s.size 0 e) (by simpa using hge) hcm
      simp only [List.length_nil, Nat.zero_add, List.map_nil, List.nil_append, Array.empty_append] at hT
      have e1 : (s.data.map fun b => Value.int .u8 b.toNat) = (Lib.strCells s).toArray := by
        apply Array.ext'
        simp [Lib.strCells]
      rw [e1] at hr
      exact ⟨_, _, hr, hT, ⟨rfl, rfl, rfl, by simp, fun k hk _ => blk_alloc (w := w.drew) _ hk⟩, .inr rfl⟩
  · by_cases hroom : l.length + s.size ≤ cap
    · have hr := run_append_room (P := P) w t u ty e i ht hu hi hs1 g l.length cap s hroom h4
      obtain ⟨r1, r2, r3⟩ := rest_setCells g (Lib.strCells s) l.length w
      refine ⟨_, _, hr, .inr ⟨g, cap, by rw [List.length_append, hss], by rw [List.length_append, hss]; exact hroom, h2, by rw [size_setCells]; exact h3, fun j hj => ⟨isSome_setCells _ _ _ _ _ (h4 j hj).1, by rw [World.frozen?_setCells]; exact (h4 j hj).2⟩, fun j hj => ?_⟩,
        ⟨r1, r2, r3, by rw [size_setCells]; exact Nat.le_refl _, fun k _ hk => heap_setCells_other _ _ _ _ _ (fun e => hk (by simp [Value.ownBlock, e]))⟩, .inl rfl⟩
      rw [List.length_append] at hj
      by_cases hj1 : j < l.length
      · rw [World.cell?_setCells_out g _ _ _ ⟨g, j, none⟩ (fun _ _ => .inl hj1), h5 j hj1]
        simp [hj1]
      · have hin := World.cell?_setCells_in g (Lib.strCells s) l.length w (fun i hi' => (h4 (l.length + i) (by rw [Lib.strCells_length] at hi'; omega)).1) (j - l.length) (by rw [strCells_len]; omega)
        rw [show l.length + (j - l.length) = j by omega] at hin
        rw [hin, List.getElem_append_right (by omega)]
        have := strCell_get s (j - l.length) (by omega)
        rw [List.getElem?_eq_getElem (by rw [strCells_len]; omega)] at this
        exact this
    · have hr := Lib.run_append_grow_string (P := P) w t u ty e i (.int .u8 0) ht hu hi hz ⟨g, 0, none⟩ l.length cap (l.map fun b => Value.int .u8 (b.toNat : Int)) (by simp [hs1]) (fun j x hx => by
        have hj : j < l.length := by have := (List.getElem?_eq_some_iff.1 hx).1; simpa using this
        rw [Addr.add_lit, Nat.zero_add, h5 j hj, ← hx]
        simp [hj]) s (by omega) (by omega) (by rw [hb1]; exact growslice_fits (by omega) (by omega))
      have hge := grownCap_ge w (l.length + s.size) cap e
      have hcm := grownCap_le_maxLen w (l.length + s.size) cap e hm
      exact ⟨_, _, hr, made _ hge hcm, ⟨rfl, rfl, rfl, by simp, fun k hk _ => blk_alloc (w := w.drew) _ hk⟩, .inr rfl⟩

/-- The law at an operation. -/
theorem wp_append {o : Oper} {a : Act} {w : World} {K : Act → World → Prop} {Q : Exit → Act → World → Prop} (sl x : Operand) (t u : TypeId)
    (ho : o.op = .call { callee := .builtin .append, args := #[sl, x], argTypes := #[t, u] })
    (e : TypeId) (i : TypeInfo) (ht : P.underlying t = some (.slice e)) (hu : P.underlying u = some .string) (hi : P.info? e = some i) (hz : i.zero = some (.int .u8 0)) (hs1 : i.size = 1) (hb1 : i.bytes = 1)
    (v : Value) (l : List UInt8) (hs : a.eval sl = v) (h : Txt w v l) (s : ByteArray) (hx : a.eval x = .string s) (hsz : l.length + s.size ≤ 140737488355328)
    (hK : ∀ (a' : Option Addr) (n' c' : Nat) (w' : World), Txt w' (.slice a' n' c') (l ++ s.data.toList) → Chg w w' (fun k => v.ownBlock = some k) → ((Value.slice a' n' c').ownBlock = v.ownBlock ∨ (Value.slice a' n' c').ownBlock = some w.heap.size) → K (a.put o.dst (.slice a' n' c')) w') : o.wp P a w K Q := by
  obtain ⟨v', w', hr, h2, h3, h4⟩ := run_append (P := P) w t u o.type e i ht hu hi hz hs1 hb1 v l h s hsz
  unfold Oper.wp execOp
  simp only [ho, resolve, invoke, builtin, Sem.run_bind, Sem.run_pure, Result.andThen_ok, List.map_toArray, List.map_cons, List.map_nil, hs, hx, hr]
  rcases h2.shape with ⟨rfl, _⟩ | ⟨g, cap, rfl, _, _⟩
  · exact hK _ _ _ w' h2 h3 h4
  · exact hK _ _ _ w' h2 h3 h4

/-- At the list of a plain region's operations. -/
theorem wpList_append {ops : Array Oper} {rest : List Oper} {o : Oper} {a : Act} {w : World} {Q : Exit → Act → World → Prop} (hgd : o.guard = none) (sl x : Operand) (t u : TypeId)
    (ho : o.op = .call { callee := .builtin .append, args := #[sl, x], argTypes := #[t, u] })
    (e : TypeId) (i : TypeInfo) (ht : P.underlying t = some (.slice e)) (hu : P.underlying u = some .string) (hi : P.info? e = some i) (hz : i.zero = some (.int .u8 0)) (hs1 : i.size = 1) (hb1 : i.bytes = 1)
    (v : Value) (l : List UInt8) (hs : a.eval sl = v) (h : Txt w v l) (s : ByteArray) (hx : a.eval x = .string s) (hsz : l.length + s.size ≤ 140737488355328)
    (hK : ∀ (a' : Option Addr) (n' c' : Nat) (w' : World), Txt w' (.slice a' n' c') (l ++ s.data.toList) → Chg w w' (fun k => v.ownBlock = some k) → ((Value.slice a' n' c').ownBlock = v.ownBlock ∨ (Value.slice a' n' c').ownBlock = some w.heap.size) → wpList P ops Q rest (a.put o.dst (.slice a' n' c')) w') : wpList P ops Q (o :: rest) a w :=
  wpList_plain hgd fun _ hK' => wp_append sl x t u ho e i ht hu hi hz hs1 hb1 v l hs h s hx hsz fun a' n' c' w' h2 h3 h4 => hK' _ _ (hK a' n' c' w' h2 h3 h4)

/-- At a step of a region that draws its order. -/
theorem step_append {ops : Array Oper} {o : Oper} {a : Act} {w : World} {K : Act → World → Prop} {Q : Exit → Act → World → Prop} {E : Prop} (hgd : o.guard = none) (sl x : Operand) (t u : TypeId)
    (ho : o.op = .call { callee := .builtin .append, args := #[sl, x], argTypes := #[t, u] })
    (e : TypeId) (i : TypeInfo) (ht : P.underlying t = some (.slice e)) (hu : P.underlying u = some .string) (hi : P.info? e = some i) (hz : i.zero = some (.int .u8 0)) (hs1 : i.size = 1) (hb1 : i.bytes = 1)
    (v : Value) (l : List UInt8) (hs : a.eval sl = v) (h : Txt w v l) (s : ByteArray) (hx : a.eval x = .string s) (hsz : l.length + s.size ≤ 140737488355328)
    (hK : ∀ (a' : Option Addr) (n' c' : Nat) (w' : World), Txt w' (.slice a' n' c') (l ++ s.data.toList) → Chg w w' (fun k => v.ownBlock = some k) → ((Value.slice a' n' c').ownBlock = v.ownBlock ∨ (Value.slice a' n' c').ownBlock = some w.heap.size) → K (a.put o.dst (.slice a' n' c')) w') :
    if Region.wanted o (yielded ops a.tmps) = true then Oper.wp P o a w K Q else E := by
  have hw : Region.wanted o (yielded ops a.tmps) = true := by simp [Region.wanted, hgd]
  rw [if_pos hw]
  exact wp_append sl x t u ho e i ht hu hi hz hs1 hb1 v l hs h s hx hsz hK

/-- 'string(v)'. -/
theorem run_string (w : World) (src dst e : TypeId) (hs : P.underlying src = some (.slice e)) (he : P.underlying e = some (.int .u8)) (hd : P.underlying dst = some .string) (v : Value) (l : List UInt8) (h : Txt w v l) :
    (convert src dst v).run P w = .ok (.string ⟨l.toArray⟩) w := by
  rcases h with ⟨rfl, rfl⟩ | ⟨g, cap, rfl, h1, h2, h3, h4, h5⟩
  · exact run_convert_bytes_nil w src e hs he 0 0 dst hd
  · exact run_convert_bytes_back w src dst e ⟨g, 0, none⟩ cap l hs he hd (fun j hj => by rw [Addr.add_lit, Nat.zero_add]; exact h5 j hj)

/-- '[]byte(s)'. -/
theorem run_bytes (w : World) (src dst e : TypeId) (hs : P.underlying src = some .string) (hd : P.underlying dst = some (.slice e)) (he : P.underlying e = some (.int .u8)) (s : ByteArray) (hm : s.size ≤ maxLen) :
    ∃ cap o, (convert src dst (.string s)).run P w = .ok (.slice (some ⟨w.heap.size, 0, none⟩) s.size cap) (w.drew.alloc o) ∧ Txt (w.drew.alloc o) (.slice (some ⟨w.heap.size, 0, none⟩) s.size cap) s.data.toList := by
  have hr := run_bytes_of_string (P := P) w src dst e s hs hd he
  have hge := grownCap_ge w s.size 0 e
  have hcm := grownCap_le_maxLen w s.size 0 e hm
  have hss : s.data.toList.length = s.size := by rw [Array.length_toList]; rfl
  have hlen : (bytesRow s (grownCap w s.size 0 e)).size = grownCap w s.size 0 e := by
    simp [bytesRow]
    have : s.data.size = s.size := rfl
    omega
  refine ⟨_, _, hr, ?_⟩
  have hn : (w.drew.alloc (.cells (bytesRow s (grownCap w s.size 0 e)) e ((bytesRow s (grownCap w s.size 0 e)).size, (bytesRow s (grownCap w s.size 0 e)).size + 1))).heap[w.heap.size]? = some _ := blk_new w.drew _
  refine .inr ⟨w.heap.size, _, by rw [hss], by rw [hss]; exact hge, hcm, lt_of_block hn, fun j hj => ⟨?_, ?_⟩, fun j hj => ?_⟩
  · rw [blk_cell hn, Array.getElem?_eq_getElem (by rw [hlen]; exact hj)]; rfl
  · simp only [World.frozen?, hn]
    rw [hlen]
    simp
    omega
  · rw [blk_cell hn]
    unfold bytesRow
    rw [Array.getElem?_append_left (by simpa using hj)]
    simp at hj
    simp [hj]
end
end Go.Proofs.Ybulkbzqc.Txt
