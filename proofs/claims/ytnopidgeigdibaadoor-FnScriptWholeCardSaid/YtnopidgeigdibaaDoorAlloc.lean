/-
  AllocRange puts the pages from i to i+n-1 into use and leaves the others. Conditions: n is at least 1, i+n at most 512, the eight words are below 2^64.
-/
import Derived.Test.YtnopidgeigdibaaDoorSet
import Derived.Laws.Rows
namespace Go.Proofs.YtnopidgeigdibaaDoor
open Go.RowKit

theorem palloc_core (ws : Nat → Nat) (hw : W64 ws) (i n b : Nat) (T : TypeId) (w : World) (hi : i + n ≤ 512) (hn : 1 ≤ n) (hB : Blk w b T ws) :
    Calls Tryd.prog 27 #[.pointer (some ⟨b, 0, none⟩), .int .u64 i, .int .u64 n] w (Wr b T (page ws) i n true w) := by
  have HC := Lib.hid (setr_core ws hw i n b T w hi hn hB)
  clear hB hw
  go_enter Tryd.func27, Tryd.ntmps27
  go_wp2_with (go_at_call 35; ((with_reducible refine (HC.out).mono ?_); rintro e w' ⟨rfl, h⟩))
  go_end0
  exact ⟨rfl, h⟩

/-- An array is handed back whose pages from i on, n of them, hold u; of what was there nothing has turned. -/
def Arr (p : Nat → Bool) (i n : Nat) (u : Bool) (w : World) (e : Ending) (w' : World) : Prop :=
  ∃ ws', e = .returned (.agg (arr8 ws')) ∧ W64 ws' ∧ PutPg p i n u (page ws') ∧ Below w.heap.size w w'

theorem Blk.new (w : World) (ws : Nat → Nat) (T : TypeId) (n : Nat) (hn : n = w.heap.size) : Blk (w.alloc (.cells (arr8 ws) T)) n T ws := by
  subst hn
  unfold Blk
  show (w.heap.push _)[w.heap.size]? = _
  simp

theorem arr8_one (ws : Nat → Nat) : (arr8 ws).all (·.oneCell') = true := by simp [arr8, Value.oneCell']

/-- The result's own block, laid second, is as it was laid. -/
theorem res_block {w w1 : World} {A C : Obj} {Z : Array Value} {T : TypeId} (hb : Below (w.heap.size + 1 + 1) (((w.alloc A).alloc (.cells Z T)).alloc C) w1) : w1.heap[w.heap.size + 1]? = some (.cells Z T (0, 0)) := by
  rw [hb.block _ (by omega)]
  show (((w.heap.push A).push _).push C)[w.heap.size + 1]? = _
  rw [Array.getElem?_push, if_neg (by simp), Array.getElem?_push, if_pos (by simp)]

theorem below_setRow {B g : Nat} {a w : World} (h : Below B a w) (hg : B ≤ g) (c : Array Value) : Below B a (w.setRow g c) :=
  h.trans ⟨rfl, rfl, rfl, by simp [World.setRow], fun k hk => by
    simp only [World.setRow, Array.getElem?_modify]
    rw [if_neg (by omega)]⟩

theorem malloc_core (ws : Nat → Nat) (hw : W64 ws) (i n : Nat) (w : World) (hi : i + n ≤ 512) (hn : 1 ≤ n) :
    Calls Tryd.prog 20 #[.agg (arr8 ws), .int .u64 i, .int .u64 n] w (Arr (page ws) i n true w) := by
  have HC := Lib.hid fun z => palloc_core ws hw i n (w.heap.size + 1 + 1) 57 (((w.alloc (.cells (arr8 ws) 50)).alloc (.cells z 50)).alloc (.cells (arr8 ws) 57)) hi hn (Blk.new _ _ _ _ (by simp))
  go_enter Tryd.func20, Tryd.ntmps20
  go_wp2_with (first | (go_at_call 27; ((refine (HC.out _).mono ?_); rintro e w1 ⟨rfl, ws', hw', hp, hB, hb⟩; have hR := res_block hb)) | (refine wpList_load_row rfl 57 (.tmp 7) rfl (w.heap.size + 1 + 1) rfl 57 (arr8 ws') (0, 0) _ hB Tryd.underlying57 rfl (by kernel_rfl) ?_) | (refine wpList_store_row rfl 50 (.tmp 6) (.tmp 12) rfl (w.heap.size + 1) (arr8 ws') rfl rfl 50 _ hR (by kernel_rfl) rfl (arr8_one ws') ?_))
  refine bodyPost_ret (results_cell_row rfl _ _ (w.heap.size + 1) 50 (arr8 ws') (0, 0) _ rfl (setRow_heap _ _ _ _ _ _ hR) Tryd.underlying50 rfl (by kernel_rfl)) rfl ?_
  exact ⟨ws', rfl, hw', hp, below_setRow (((((Below.refl _ _).alloc (Nat.le_refl _) _).alloc (by simp) _).alloc (by simp; omega) _).trans (hb.mono (by omega))) (by omega) _⟩

/-- The result's own block, laid second and last, is as it was laid. -/
theorem res_block2 {w w1 : World} {A : Obj} {Z : Array Value} {T : TypeId} (hb : Below ((w.alloc A).alloc (.cells Z T)).heap.size ((w.alloc A).alloc (.cells Z T)) w1) : w1.heap[w.heap.size + 1]? = some (.cells Z T (0, 0)) := by
  rw [hb.block _ (by simp)]
  show ((w.heap.push A).push _)[w.heap.size + 1]? = _
  rw [Array.getElem?_push, if_pos (by simp)]

theorem below_two {w w1 : World} {A B : Obj} (hb : Below ((w.alloc A).alloc B).heap.size ((w.alloc A).alloc B) w1) : Below w.heap.size w w1 :=
  (((Below.refl _ _).alloc (Nat.le_refl _) _).alloc (by simp) _).trans (hb.mono (by simp; omega))

theorem ialloc_core (ws : Nat → Nat) (hw : W64 ws) (i n : Nat) (w : World) (hi : i + n ≤ 512) (hn : 1 ≤ n) :
    Calls Tryd.prog 11 #[.agg (arr8 ws), .int .u64 i, .int .u64 n] w (Arr (page ws) i n true w) := by
  have HC := Lib.hid fun z => malloc_core ws hw i n ((w.alloc (.cells (arr8 ws) 24)).alloc (.cells z 24)) hi hn
  go_enter Tryd.func11, Tryd.ntmps11
  go_wp2_with (first | (go_at_call 20; ((refine (HC.out _).mono ?_); rintro e w1 ⟨ws', rfl, hw', hp, hb⟩; have hR := res_block2 hb)) | (refine wpList_store_row rfl 24 (.tmp 6) (.tmp 10) rfl (w.heap.size + 1) (arr8 ws') rfl rfl 24 _ hR (by kernel_rfl) rfl (arr8_one ws') ?_))
  refine bodyPost_ret (results_cell_row rfl _ _ (w.heap.size + 1) 24 (arr8 ws') (0, 0) _ rfl (setRow_heap _ _ _ _ _ _ hR) Tryd.underlying24 rfl (by kernel_rfl)) rfl ?_
  exact ⟨ws', rfl, hw', hp, below_setRow (below_two hb) (by omega) _⟩

end Go.Proofs.YtnopidgeigdibaaDoor
