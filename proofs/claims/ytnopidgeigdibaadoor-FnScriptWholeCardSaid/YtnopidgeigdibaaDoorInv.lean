/-
  What the law's loop keeps: the words, the pages, what was taken; and small facts on owned rows of pairs. Conditions stand in each statement.
-/
import Derived.Test.YtnopidgeigdibaaDoorScr
import Derived.Test.YtnopidgeigdibaaDoorClr
namespace Go.Proofs.YtnopidgeigdibaaDoor
open Go.RowKit

/-- Below block H the world w' is as w was, but for block B. -/
structure Keep (B H : Nat) (w w' : World) : Prop where
  os : w'.os = w.os
  tape : w'.tape = w.tape
  output : w'.output = w.output
  size : w.heap.size ≤ w'.heap.size
  block : ∀ k, k < H → k ≠ B → w'.heap[k]? = w.heap[k]?

theorem Keep.refl (B H : Nat) (w : World) : Keep B H w w := ⟨rfl, rfl, rfl, Nat.le_refl _, fun _ _ _ => rfl⟩
theorem Keep.below {B H : Nat} {a w w' : World} (h : Keep B H a w) (hb : Below w.heap.size w w') (hH : H ≤ w.heap.size) : Keep B H a w' :=
  ⟨hb.os.trans h.os, hb.tape.trans h.tape, hb.output.trans h.output, Nat.le_trans h.size hb.size, fun k hk hn => (hb.block k (by omega)).trans (h.block k hk hn)⟩
theorem Keep.drew {B H : Nat} {a w : World} (h : Keep B H a w) : Keep B H a w.drew := ⟨h.os, h.tape, h.output, h.size, h.block⟩
theorem Keep.setRow {B H : Nat} {a w : World} (h : Keep B H a w) (c : Array Value) : Keep B H a (w.setRow B c) :=
  ⟨h.os, h.tape, h.output, by have := h.size; simpa [World.setRow] using this, fun k hk hn => by
    simp only [World.setRow, Array.getElem?_modify]
    rw [if_neg (by omega)]
    exact h.block k hk hn⟩
theorem Keep.setCell {B H : Nat} {a w : World} (h : Keep B H a w) {p : Addr} (hp : H ≤ p.block) (u : Value) : Keep B H a (w.setCell p u) :=
  ⟨h.os, h.tape, h.output, by have := h.size; simpa [World.setCell] using this, fun k hk hn => by
    rw [Below.heap_setCell _ _ _ _ (by omega)]
    exact h.block k hk hn⟩
theorem Keep.grown {B H : Nat} {a w w' : World} {row : Option Nat} (h : Keep B H a w) (hg : w.grownBy w' row) (hH : H ≤ w.heap.size) (hr : ∀ k, row = some k → H ≤ k) : Keep B H a w' :=
  ⟨hg.os.trans h.os, hg.tape.trans h.tape, hg.output.trans h.output, Nat.le_trans h.size hg.size, fun k hk hn => (hg.block k (by omega) (fun e => by have := hr k e.symm; omega)).trans (h.block k hk hn)⟩
theorem Keep.cell {B H : Nat} {w w' : World} (h : Keep B H w w') {p : Addr} (hp : p.block < H) (hn : p.block ≠ B) : w'.cell? p = w.cell? p := World.cell?_of_block (w := w) (h.block p.block hp hn)
theorem Keep.tab {B H : Nat} {w w' : World} (h : Keep B H w w') (h0 : 0 < H) (hB : 0 ≠ B) (hT : Tab w) : Tab w' := fun j hj => by rw [h.cell (p := ⟨0, j, none⟩) h0 hB]; exact hT j hj

theorem Row.congr {w : World} {g : Nat} {p p' : Nat → Bool} (h : Row w g p) (he : ∀ q, q < 512 → p q = p' q) : Row w g p' := by
  obtain ⟨cur, h1, h2⟩ := h
  exact ⟨cur, h1, fun q hq => by rw [← he q hq]; exact h2 q hq⟩

theorem Blk.kept {w w' : World} {b : Nat} {T : TypeId} {ws : Nat → Nat} (h : Blk w b T ws) (hk : w'.heap[b]? = w.heap[b]?) : Blk w' b T ws := by
  unfold Blk at h ⊢
  rw [hk]; exact h

/-- An owned row is as it was where its block is. -/
theorem own_kept {w w' : World} {base : Nat} {e : TypeId} {size n : Nat} {v : Value} {xs : List Value} (h : w.ownsRow base e size v n xs) (hk : ∀ k, v.ownBlock = some k → w'.heap[k]? = w.heap[k]?) : w'.ownsRow base e size v n xs := by
  obtain ⟨h1, h2 | ⟨g, cap, cur, hv, hg, hh, r⟩⟩ := h
  · exact ⟨h1, Or.inl h2⟩
  · exact ⟨h1, Or.inr ⟨g, cap, cur, hv, hg, by rw [hk g (by rw [hv]; rfl)]; exact hh, r⟩⟩

theorem own_lt {w : World} {base : Nat} {e : TypeId} {size n : Nat} {v : Value} {xs : List Value} (h : w.ownsRow base e size v n xs) : ∀ k, v.ownBlock = some k → k < w.heap.size := by
  intro k hk
  obtain ⟨_, ⟨rfl, _⟩ | ⟨g, cap, cur, rfl, hg, hh, _⟩⟩ := h
  · cases hk
  · have : g = k := by injection hk
    subst this
    exact (Array.getElem?_eq_some_iff.mp hh).1

theorem enc_len (l : List (Nat × Nat)) : (enc l).length = l.length * 2 := by
  induction l with
  | nil => rfl
  | cons x l ih =>
    show ([Value.int .i64 (x.1 : Nat), .int .i64 (x.2 : Nat)] ++ enc l).length = _
    rw [List.length_append, ih]
    simp; omega

theorem enc_cons (x : Nat × Nat) (l : List (Nat × Nat)) : enc (x :: l) = Value.int .i64 (x.1 : Nat) :: Value.int .i64 (x.2 : Nat) :: enc l := rfl

theorem enc_get : ∀ (l : List (Nat × Nat)) (j : Nat) (hj : j < l.length), (enc l)[2 * j]? = some (.int .i64 (l[j].1 : Nat)) ∧ (enc l)[2 * j + 1]? = some (.int .i64 (l[j].2 : Nat))
  | x :: l, 0, _ => ⟨rfl, rfl⟩
  | x :: l, j + 1, hj => by
    have h := enc_get l j (by simpa using hj)
    rw [enc_cons, show 2 * (j + 1) = 2 * j + 1 + 1 by omega, List.getElem?_cons_succ, List.getElem?_cons_succ, List.getElem?_cons_succ, List.getElem?_cons_succ]
    exact h

theorem enc_set : ∀ (l : List (Nat × Nat)) (j a b : Nat) (_ : j < l.length), ((enc l).set (2 * j) (.int .i64 (a : Nat))).set (2 * j + 1) (.int .i64 (b : Nat)) = enc (l.set j (a, b))
  | x :: l, 0, a, b, _ => rfl
  | x :: l, j + 1, a, b, hj => by
    have h := enc_set l j a b (by simpa using hj)
    rw [List.set_cons_succ, enc_cons, enc_cons, ← h, show 2 * (j + 1) = 2 * j + 1 + 1 by omega]
    rfl

theorem enc_take : ∀ (l : List (Nat × Nat)) (n : Nat), (enc l).take (n * 2) = enc (l.take n)
  | l, 0 => by simp [enc]
  | [], n + 1 => by simp [enc]
  | x :: l, n + 1 => by
    rw [List.take_succ_cons, enc_cons, enc_cons, show (n + 1) * 2 = n * 2 + 1 + 1 by omega, List.take_succ_cons, List.take_succ_cons, enc_take l n]

/-- What an owned row of pairs holds at j. -/
theorem own_at {w : World} {base : Nat} {e : TypeId} {A : Option Addr} {n cap : Nat} {l : List (Nat × Nat)} (h : w.ownsRow base e 2 (.slice A n cap) n (enc l)) (j : Nat) (hj : j < l.length) :
    l.length = n ∧ ∃ g, A = some ⟨g, 0, none⟩ ∧ base ≤ g ∧ g < w.heap.size ∧ w.cell? ⟨g, j * 2, none⟩ = some (.int .i64 (l[j].1 : Nat)) ∧ w.cell? ⟨g, j * 2 + 1, none⟩ = some (.int .i64 (l[j].2 : Nat)) ∧ ∀ k, w.frozen? ⟨g, k, none⟩ = false := by
  rw [Nat.mul_comm j 2]
  obtain ⟨h1, h2⟩ := h
  have hln : l.length = n := by rw [enc_len] at h1; omega
  rcases h2 with ⟨h2, rfl⟩ | ⟨g, cap', cur, hv, hg, hh, hn, hc, hs, ht⟩
  · omega
  · injection hv with e1 e2 e3
    subst e3
    have hlt : g < w.heap.size := (Array.getElem?_eq_some_iff.mp hh).1
    obtain ⟨c1, c2⟩ := enc_get l j hj
    rw [← ht, List.getElem?_take, if_pos (by omega)] at c1 c2
    refine ⟨hln, g, e1, hg, hlt, ?_, ?_, fun k => by simp [World.frozen?, hh]⟩
    · rw [cell_of_row w g _ cur e (0, 0) hh]; simpa using c1
    · rw [cell_of_row w g _ cur e (0, 0) hh]; simpa using c2

theorem own_at2 {w : World} {base : Nat} {e : TypeId} {A : Option Addr} {n cap : Nat} {l : List (Nat × Nat)} (h : w.ownsRow base e 2 (.slice A n cap) n (enc l)) {j a b : Nat} (hj : l[j]? = some (a, b)) :
    l.length = n ∧ j < n ∧ ∃ g, A = some ⟨g, 0, none⟩ ∧ base ≤ g ∧ g < w.heap.size ∧ w.cell? ⟨g, j * 2, none⟩ = some (.int .i64 (a : Nat)) ∧ w.cell? ⟨g, j * 2 + 1, none⟩ = some (.int .i64 (b : Nat)) ∧ ∀ k, w.frozen? ⟨g, k, none⟩ = false := by
  obtain ⟨hl, he⟩ := List.getElem?_eq_some_iff.mp hj
  obtain ⟨h1, r⟩ := own_at h j hl
  rw [he] at r
  exact ⟨h1, by omega, r⟩

theorem own_cap {w : World} {base : Nat} {e : TypeId} {g n m cap size : Nat} {xs : List Value} (h : w.ownsRow base e size (.slice (some ⟨g, 0, none⟩) n cap) m xs) : m ≤ cap := by
  obtain ⟨h1, ⟨h2, _⟩ | ⟨g', cap', cur, hv, hg, hh, hn, _⟩⟩ := h
  · cases h2
  · injection hv with e1 e2 e3
    omega

/-- Two cells of an owned row of pairs are written. -/
theorem own_set {w : World} {base : Nat} {e : TypeId} {g n cap : Nat} {l : List (Nat × Nat)} (h : w.ownsRow base e 2 (.slice (some ⟨g, 0, none⟩) n cap) n (enc l)) (j a b : Nat) (hj : j < l.length) :
    ((w.setCell ⟨g, j * 2, none⟩ (.int .i64 (a : Nat))).setCell ⟨g, j * 2 + 1, none⟩ (.int .i64 (b : Nat))).ownsRow base e 2 (.slice (some ⟨g, 0, none⟩) n cap) n (enc (l.set j (a, b))) := by
  rw [Nat.mul_comm j 2]
  obtain ⟨h1, h2⟩ := h
  have hln : l.length = n := by rw [enc_len] at h1; omega
  rcases h2 with ⟨h2, _⟩ | ⟨g', cap', cur, hv, hg, hh, hn, hc, hs, ht⟩
  · cases h2
  · injection hv with e1 e2 e3
    injection e1 with e1
    injection e1 with e1
    subst e1 e3
    refine ⟨by rw [enc_len, List.length_set]; omega, Or.inr ⟨g, cap, (cur.setIfInBounds (2 * j) (.int .i64 (a : Nat))).setIfInBounds (2 * j + 1) (.int .i64 (b : Nat)), rfl, hg, ?_, hn, hc, by simpa using hs, ?_⟩⟩
    · have e0 : ∀ (W : World) (c : Array Value) (k : Nat) (u : Value), W.heap[g]? = some (.cells c e (0, 0)) → (W.setCell ⟨g, k, none⟩ u).heap[g]? = some (.cells (c.setIfInBounds k u) e (0, 0)) := fun W c k u hW => by
        simp only [World.setCell, Array.getElem?_modify, if_pos, hW, Option.map_some]
        rfl
      exact e0 _ _ _ _ (e0 _ _ _ _ hh)
    · rw [Array.toList_setIfInBounds, Array.toList_setIfInBounds, List.take_set, List.take_set, ht, enc_set l j a b hj]

/-- An owned row of pairs cut to its first m. -/
theorem own_cut {w : World} {base : Nat} {e : TypeId} {g n cap m : Nat} {l : List (Nat × Nat)} (h : w.ownsRow base e 2 (.slice (some ⟨g, 0, none⟩) n cap) n (enc l)) (hm : m ≤ n) :
    w.ownsRow base e 2 (.slice (some ⟨g, 0, none⟩) m cap) m (enc (l.take m)) := by
  obtain ⟨h1, h2⟩ := h
  have hln : l.length = n := by rw [enc_len] at h1; omega
  rcases h2 with ⟨h2, _⟩ | ⟨g', cap', cur, hv, hg, hh, hn, hc, hs, ht⟩
  · cases h2
  · injection hv with e1 e2 e3
    injection e1 with e1
    injection e1 with e1
    subst e1 e3
    refine ⟨by rw [enc_len, List.length_take]; omega, Or.inr ⟨g, cap, cur, rfl, hg, hh, by omega, hc, hs, ?_⟩⟩
    rw [← enc_take, ← ht, List.take_take, Nat.min_eq_left (by omega)]

/-- Each of what was taken lies in the chunk. -/
def TaOk (l : List (Nat × Nat)) : Prop := ∀ x, x ∈ l → 1 ≤ x.2 ∧ x.1 + x.2 ≤ 512

theorem TaOk.nil : TaOk [] := fun x hx => by cases hx
theorem TaOk.snoc {l : List (Nat × Nat)} (h : TaOk l) {a b : Nat} (ha : 1 ≤ b) (hb : a + b ≤ 512) : TaOk (l ++ [(a, b)]) := by
  intro x hx
  rcases List.mem_append.mp hx with hx | hx
  · exact h x hx
  · obtain rfl : x = (a, b) := by simpa using hx
    exact ⟨ha, hb⟩
theorem TaOk.drop {l : List (Nat × Nat)} (h : TaOk l) {j n : Nat} {x : Nat × Nat} (hx : x ∈ l) : TaOk ((l.set j x).take n) := by
  intro y hy
  rcases List.mem_or_eq_of_mem_set (List.mem_of_mem_take hy) with hy | rfl
  · exact h y hy
  · exact h _ hx

/-- What the loop keeps. W1: the world when the loop began; B: the words' block; H: the heap's size then; g: the pages' block. -/
structure Inv (W1 : World) (B H g : Nat) (ws : Nat → Nat) (p : Nat → Bool) (v5 : Value) (n : Nat) (ta : List (Nat × Nat)) (wr : World) : Prop where
  keep : Keep B H W1 wr
  hH : H ≤ wr.heap.size
  hB : B < H
  h0 : 0 < B
  tab : Tab wr
  w64 : W64 ws
  blk : Blk wr B 24 ws
  row : Row wr g p
  gB : g ≠ B
  own : wr.ownsRow H 36 2 v5 n (enc ta)
  tak : TaOk ta
  len : ta.length = n
  ne : v5.ownBlock ≠ some g

section
variable {W1 : World} {B H g n : Nat} {ws : Nat → Nat} {p : Nat → Bool} {v5 : Value} {ta : List (Nat × Nat)} {wr : World}

/-- A callee that turns nothing of what was there. -/
theorem Inv.below {w' : World} (h : Inv W1 B H g ws p v5 n ta wr) (hb : Below wr.heap.size wr w') : Inv W1 B H g ws p v5 n ta w' :=
  ⟨h.keep.below hb h.hH, Nat.le_trans h.hH hb.size, h.hB, h.h0, h.tab.below h.tab.lt hb, h.w64, h.blk.kept (hb.block _ h.blk.lt), h.row.kept (hb.block _ h.row.lt), h.gB, own_kept h.own fun k hk => hb.block k (own_lt h.own k hk), h.tak, h.len, h.ne⟩

theorem Inv.alloc (h : Inv W1 B H g ws p v5 n ta wr) (o : Obj) : Inv W1 B H g ws p v5 n ta (wr.alloc o) := h.below ((Below.refl _ _).alloc (Nat.le_refl _) _)

theorem Inv.drew (h : Inv W1 B H g ws p v5 n ta wr) : Inv W1 B H g ws p v5 n ta wr.drew :=
  ⟨h.keep.drew, h.hH, h.hB, h.h0, fun j hj => h.tab j hj, h.w64, h.blk, h.row, h.gB, own_kept h.own fun _ _ => rfl, h.tak, h.len, h.ne⟩

theorem heap_setRow_ne (w : World) (g k : Nat) (c : Array Value) (h : k ≠ g) : (w.setRow g c).heap[k]? = w.heap[k]? := by
  simp only [World.setRow, Array.getElem?_modify]
  rw [if_neg (by omega)]

/-- The words are written. -/
theorem Inv.store {ws' : Nat → Nat} (h : Inv W1 B H g ws p v5 n ta wr) (hw : W64 ws') : Inv W1 B H g ws' p v5 n ta (wr.setRow B (arr8 ws')) := by
  have hne : ∀ k, v5.ownBlock = some k → k ≠ B := fun k hk => by have := own_ge h.own k hk; have := h.hB; omega
  refine ⟨h.keep.setRow _, by have := h.hH; simpa [World.setRow] using this, h.hB, h.h0, fun j hj => ?_, hw, setRow_heap _ _ _ _ _ _ h.blk, h.row.kept (heap_setRow_ne _ _ _ _ h.gB), h.gB, own_kept h.own fun k hk => heap_setRow_ne _ _ _ _ (hne k hk), h.tak, h.len, h.ne⟩
  rw [World.cell?_of_block (w := wr) (heap_setRow_ne _ _ _ _ (by have := h.h0; show 0 ≠ B; omega))]
  exact h.tab j hj

/-- One word is written. -/
theorem Inv.cell (h : Inv W1 B H g ws p v5 n ta wr) {k y : Nat} (hk : k < 8) (hy : y < 18446744073709551616) : Inv W1 B H g (upd ws k y) p v5 n ta (wr.setCell ⟨B, k, none⟩ (.int .u64 (y : Nat))) := by
  have hne : ∀ k, v5.ownBlock = some k → k ≠ B := fun k hk => by have := own_ge h.own k hk; have := h.hB; omega
  have hsz : (wr.setCell ⟨B, k, none⟩ (.int .u64 (y : Nat))).heap.size = wr.heap.size := by simp [World.setCell]
  refine ⟨⟨h.keep.os, h.keep.tape, h.keep.output, by rw [hsz]; exact h.keep.size, fun q hq hn => by rw [Below.heap_setCell _ _ _ _ hn]; exact h.keep.block q hq hn⟩, by rw [hsz]; exact h.hH, h.hB, h.h0, fun j hj => ?_, h.w64.upd hy, h.blk.set hk y,
    h.row.kept (Below.heap_setCell _ _ _ _ h.gB), h.gB, own_kept h.own fun q hq => Below.heap_setCell _ _ _ _ (hne q hq), h.tak, h.len, h.ne⟩
  rw [World.cell?_of_block (w := wr) (Below.heap_setCell _ _ _ 0 (by have := h.h0; show 0 ≠ B; omega))]
  exact h.tab j hj

/-- All eight words are written, one by one. -/
theorem Inv.store8 {ws' : Nat → Nat} (h : Inv W1 B H g ws p v5 n ta wr) (hw : W64 ws') :
    Inv W1 B H g ws' p v5 n ta ((((((((wr.setCell ⟨B, 0, none⟩ (.int .u64 (ws' 0 : Nat))).setCell ⟨B, 1, none⟩ (.int .u64 (ws' 1 : Nat))).setCell ⟨B, 2, none⟩ (.int .u64 (ws' 2 : Nat))).setCell ⟨B, 3, none⟩ (.int .u64 (ws' 3 : Nat))).setCell ⟨B, 4, none⟩ (.int .u64 (ws' 4 : Nat))).setCell ⟨B, 5, none⟩ (.int .u64 (ws' 5 : Nat))).setCell ⟨B, 6, none⟩ (.int .u64 (ws' 6 : Nat))).setCell ⟨B, 7, none⟩ (.int .u64 (ws' 7 : Nat))) := by
  have h8 := (((((((h.cell (k := 0) (by omega) (hw 0 (by omega))).cell (k := 1) (by omega) (hw 1 (by omega))).cell (k := 2) (by omega) (hw 2 (by omega))).cell (k := 3) (by omega) (hw 3 (by omega))).cell (k := 4) (by omega) (hw 4 (by omega))).cell (k := 5) (by omega) (hw 5 (by omega))).cell (k := 6) (by omega) (hw 6 (by omega))).cell (k := 7) (by omega) (hw 7 (by omega))
  exact ⟨h8.keep, h8.hH, h8.hB, h8.h0, h8.tab, hw, h8.blk, h8.row, h8.gB, h8.own, h8.tak, h8.len, h8.ne⟩

/-- The pages are put anew. -/
theorem Inv.put {w' : World} {g' : Nat} {p' : Nat → Bool} (h : Inv W1 B H g ws p v5 n ta wr) (hg : wr.heap.size ≤ g') (hr : Row w' g' p') (hb : Below wr.heap.size wr w') : Inv W1 B H g' ws p' v5 n ta w' := by
  have h1 := h.below hb
  exact ⟨h1.keep, h1.hH, h1.hB, h1.h0, h1.tab, h1.w64, h1.blk, hr, by have := h.hB; have := h.hH; omega, h1.own, h1.tak, h1.len, fun hk => by have := own_lt h.own _ hk; omega⟩

theorem Inv.pages {p' : Nat → Bool} (h : Inv W1 B H g ws p v5 n ta wr) (he : ∀ q, q < 512 → p q = p' q) : Inv W1 B H g ws p' v5 n ta wr :=
  ⟨h.keep, h.hH, h.hB, h.h0, h.tab, h.w64, h.blk, h.row.congr he, h.gB, h.own, h.tak, h.len, h.ne⟩

/-- The row of what was taken is not the pages'. -/
theorem ne_of {w : World} {base size n g : Nat} {v : Value} {xs : List Value} {p : Nat → Bool} (h : w.ownsRow base 36 size v n xs) (hr : Row w g p) : v.ownBlock ≠ some g := by
  intro hk
  obtain ⟨_, ⟨rfl, _⟩ | ⟨g', cap, cur, rfl, hg, hh, _⟩⟩ := h
  · cases hk
  · have e : g' = g := by injection hk
    subst e
    obtain ⟨cur', h1, _⟩ := hr
    rw [hh] at h1
    injection h1 with h1
    injection h1 with _ h1
    cases h1

/-- What was taken is one more. -/
theorem Inv.append {w7 : World} {v' : Value} {ta' : List (Nat × Nat)} {n' : Nat} {o : Obj} (h : Inv W1 B H g ws p v5 n ta wr) (hg : (wr.alloc o).grownBy w7 v5.ownBlock) (hown : w7.ownsRow H 36 2 v' n' (enc ta')) (ht : TaOk ta') (hl : ta'.length = n') :
    Inv W1 B H g ws p v' n' ta' w7 := by
  have ha := h.alloc o
  have hge := own_ge h.own
  have hkeep := ha.keep.grown hg ha.hH hge
  have hrow : Row w7 g p := ha.row.kept (hg.block _ ha.row.lt (fun e => h.ne e.symm))
  exact ⟨hkeep, Nat.le_trans ha.hH hg.size, h.hB, h.h0, fun j hj => by rw [World.cell?_of_block (w := wr.alloc o) (hg.block 0 ha.tab.lt (fun e => by have := hge 0 e.symm; have := h.hB; omega))]; exact ha.tab j hj, h.w64,
    ha.blk.kept (hg.block _ ha.blk.lt (fun e => by have := hge B e.symm; have := h.hB; omega)), hrow, h.gB, hown, ht, hl, ne_of hown hrow⟩

/-- One of what was taken goes: the last takes its place. -/
theorem Inv.drop {ga cap j a b : Nat} (h : Inv W1 B H g ws p (.slice (some ⟨ga, 0, none⟩) n cap) n ta wr) (hj : j < n) (hl : ta[n - 1]? = some (a, b)) :
    Inv W1 B H g ws p (.slice (some ⟨ga, 0, none⟩) (n - 1) cap) (n - 1) ((ta.set j (a, b)).take (n - 1)) ((wr.setCell ⟨ga, j * 2, none⟩ (.int .i64 (a : Nat))).setCell ⟨ga, j * 2 + 1, none⟩ (.int .i64 (b : Nat))) := by
  have hH : H ≤ ga := own_ge h.own ga rfl
  have hB := h.hB
  have h0 := h.h0
  have hne : g ≠ ga := fun e => h.ne (by rw [e]; rfl)
  have far : ∀ k, k ≠ ga → ((wr.setCell ⟨ga, j * 2, none⟩ (.int .i64 (a : Nat))).setCell ⟨ga, j * 2 + 1, none⟩ (.int .i64 (b : Nat))).heap[k]? = wr.heap[k]? := fun k hk => by
    rw [Below.heap_setCell _ _ _ _ hk, Below.heap_setCell _ _ _ _ hk]
  have hrow := h.row.kept (far g hne)
  have hjt : j < ta.length := by rw [h.len]; exact hj
  have hown := own_cut (own_set h.own j a b hjt) (show n - 1 ≤ n by omega)
  refine ⟨(h.keep.setCell (p := ⟨ga, j * 2, none⟩) hH _).setCell (p := ⟨ga, j * 2 + 1, none⟩) hH _, by have := h.hH; simpa [World.setCell] using this, h.hB, h.h0, fun q hq => ?_, h.w64, h.blk.kept (far B (by omega)), hrow, h.gB, hown, ?_, ?_, ne_of hown hrow⟩
  · rw [World.cell?_of_block (w := wr) (far 0 (by omega))]
    exact h.tab q hq
  · exact TaOk.drop h.tak (List.mem_of_getElem? hl)
  · rw [List.length_take, List.length_set, h.len]; omega

/-- The eight cells, and the rest behind its name. -/
theorem inv8 (h : Hid (Inv W1 B H g ws p v5 n ta wr)) :
    wr.cell? ⟨B, 0, none⟩ = some (.int .u64 (ws 0 : Nat)) ∧ wr.cell? ⟨B, 1, none⟩ = some (.int .u64 (ws 1 : Nat)) ∧ wr.cell? ⟨B, 2, none⟩ = some (.int .u64 (ws 2 : Nat)) ∧ wr.cell? ⟨B, 3, none⟩ = some (.int .u64 (ws 3 : Nat)) ∧
    wr.cell? ⟨B, 4, none⟩ = some (.int .u64 (ws 4 : Nat)) ∧ wr.cell? ⟨B, 5, none⟩ = some (.int .u64 (ws 5 : Nat)) ∧ wr.cell? ⟨B, 6, none⟩ = some (.int .u64 (ws 6 : Nat)) ∧ wr.cell? ⟨B, 7, none⟩ = some (.int .u64 (ws 7 : Nat)) ∧
    Hid (Inv W1 B H g ws p v5 n ta wr) := by
  have h8 := h.out.blk.at8
  exact ⟨h8 0 (by omega), h8 1 (by omega), h8 2 (by omega), h8 3 (by omega), h8 4 (by omega), h8 5 (by omega), h8 6 (by omega), h8 7 (by omega), h⟩
end

end Go.Proofs.YtnopidgeigdibaaDoor
