/-
  clearRange sets the pages from i to i+n-1 free and leaves the others. Conditions: n is at least 1, i+n at most 512, the eight words are below 2^64 and are the whole block behind the pointer.
-/
import Derived.Test.YtnopidgeigdibaaDoorAlloc
namespace Go.Proofs.YtnopidgeigdibaaDoor
open Go.RowKit

/-- The words from lo on, n of them, are 0. -/
def zer (ws : Nat → Nat) (lo n : Nat) : Nat → Nat := fun k => if lo ≤ k ∧ k < lo + n then 0 else ws k

theorem zer_row (ws : Nat → Nat) (lo n : Nat) (h : lo + n ≤ 8) : ((arr8 ws).toList.take lo ++ List.replicate n (Value.int .u64 0) ++ (arr8 ws).toList.drop (lo + n)).toArray = arr8 (zer ws lo n) := by
  have h1 : lo = 0 ∨ lo = 1 ∨ lo = 2 ∨ lo = 3 ∨ lo = 4 ∨ lo = 5 ∨ lo = 6 ∨ lo = 7 ∨ lo = 8 := by omega
  have h2 : n = 0 ∨ n = 1 ∨ n = 2 ∨ n = 3 ∨ n = 4 ∨ n = 5 ∨ n = 6 ∨ n = 7 ∨ n = 8 := by omega
  rcases h1 with rfl | rfl | rfl | rfl | rfl | rfl | rfl | rfl | rfl <;> rcases h2 with rfl | rfl | rfl | rfl | rfl | rfl | rfl | rfl | rfl <;> first | rfl | omega

theorem clr_run (w : World) (b : Nat) (T ty : TypeId) (ws : Nat → Nat) (lo n c : Nat) (hB : Blk w b T ws) (h : lo + n ≤ 8) :
    (Builtin.clear_ #[27] ty #[.slice (some ⟨b, lo, none⟩) n c]).run Tryd.prog w = .ok (.tuple #[]) (w.setRow b (arr8 (zer ws lo n))) := by
  by_cases hn : n = 0
  · subst hn
    have e : arr8 (zer ws lo 0) = arr8 ws := by rw [← zer_row ws lo 0 h]; simp
    rw [e, setRow_self w b (arr8 ws) T (0, 0) hB]
    simp [Builtin.clear_, run_underlying Tryd.underlying27]
  · have hs := run_storeCells_at (P := Tryd.prog) b lo T (List.replicate n (Value.int .u64 0)) 0 (arr8 ws) w hB (by simpa using h) (fun v hv => by rw [List.eq_of_mem_replicate hv]; rfl)
    rw [Nat.add_zero, List.length_replicate, zer_row ws lo n h] at hs
    obtain ⟨m, rfl⟩ : ∃ m, n = m + 1 := ⟨n - 1, by omega⟩
    have hz : (Builtin.zeroCells #[Value.int .u64 0] (m + 1)).toList = List.replicate (m + 1) (Value.int .u64 0) := by
      apply List.ext_getElem
      · simp [Builtin.zeroCells]
      · intro j h1 h2
        simp [Builtin.zeroCells, Nat.mod_one]
    simp [Builtin.clear_, run_underlying Tryd.underlying27, Tryd.zeroValue23, Value.cells, hz, hs]

theorem Turn.zero (x : Nat) : Turn x 0 64 false 0 := ⟨by omega, fun q hq => by rw [if_pos ⟨by omega, hq⟩, Nat.zero_testBit]⟩

theorem zer_pages {ws : Nat → Nat} {lo n : Nat} : PutPg (page ws) (64 * lo) (64 * n) false (page (zer ws lo n)) := by
  intro q _
  unfold page zer
  by_cases h : lo ≤ q / 64 ∧ q / 64 < lo + n
  · rw [if_pos h, if_pos (by omega), Nat.zero_testBit]
  · rw [if_neg h, if_neg (by omega)]

theorem zer_w64 {ws : Nat → Nat} (h : W64 ws) (lo n : Nat) : W64 (zer ws lo n) := by
  intro j hj
  unfold zer
  split
  · omega
  · exact h j hj

/-- The words between are cleared: the world behind it under a name. -/
theorem clr_step {w w1 : World} {b : Nat} {T : TypeId} {p : Nat → Bool} {i n lo m c : Nat} (h : Wr b T p i n false w (.returned (.tuple #[])) w1) (hlo : i + n = 64 * lo) (hm : lo + m ≤ 8) :
    ∃ W, (Builtin.clear_ #[27] 0 #[.slice (some ⟨b, lo, none⟩) m c]).run Tryd.prog w1 = .ok (.tuple #[]) W ∧ Wr b T p i (n + 64 * m) false w (.returned (.tuple #[])) W := by
  obtain ⟨-, ws', hw', hp, hB, hbel⟩ := h
  exact ⟨_, clr_run w1 b T 0 ws' lo m c hB hm, rfl, _, zer_w64 hw' lo m, hp.join (zer_pages.same hlo.symm rfl), setRow_heap _ _ _ _ _ _ hB, below_setRow hbel (Nat.le_refl b) _⟩

set_option maxHeartbeats 400000 in
theorem clear_core (ws : Nat → Nat) (hw : W64 ws) (i b : Nat) (T : TypeId) (w : World) (hi : i < 512) (hB : Blk w b T ws) :
    Calls Tryd.prog 39 #[.pointer (some ⟨b, 0, none⟩), .int .u64 i] w (Wr b T (page ws) i 1 false w) := by
  have hk : i / 64 < 8 := by omega
  have hc := hB.at8 _ hk
  have hf := hB.free (i / 64)
  have hx := hw _ hk
  have hm := wm1 (s := i % 64) (by omega)
  have hv := andNot_nat (ws (i / 64)) (msk (i % 64) (i % 64 + 1)) hx (msk_lt (by omega))
  have HF := Lib.hid (wr_word hw hB hk (by omega) (turn_andNot (s := i % 64) (t := i % 64 + 1) hx (by omega) (by omega)) (by omega : 64 * (i / 64) + i % 64 = i) (by omega : i % 64 + 1 - i % 64 = 1))
  clear hB hw hx
  generalize ws (i / 64) &&& cpl (msk (i % 64) (i % 64 + 1)) = y at hv HF
  generalize msk (i % 64) (i % 64 + 1) = m at hm hv
  go_enter Tryd.func39, Tryd.ntmps39
  go_wp2
  go_region
  go_end0
  exact HF.out

set_option maxHeartbeats 400000 in
theorem clrr_one (ws : Nat → Nat) (hw : W64 ws) (i n b : Nat) (T : TypeId) (w : World) (hi : i + n ≤ 512) (hn : 2 ≤ n) (hj : (i + n - 1) / 64 = i / 64) (hB : Blk w b T ws) :
    Calls Tryd.prog 31 #[.pointer (some ⟨b, 0, none⟩), .int .u64 i, .int .u64 n] w (Wr b T (page ws) i n false w) := by
  have hb : ((n : Int) == 1) = false := by rw [beq_eq_false_iff_ne]; omega
  have hj' : (((i : Int) / 64) == (((i : Int) + n - 1) / 64)) = true := by rw [beq_iff_eq]; omega
  have hs : i % 64 + n ≤ 64 := by omega
  have hk : i / 64 < 8 := by omega
  have hc := hB.at8 _ hk
  have hf := hB.free (i / 64)
  have hx := hw _ hk
  have hm := wm2 (s := i % 64) (n := n) hs
  have hv := andNot_nat (ws (i / 64)) (msk (i % 64) (i % 64 + n)) hx (msk_lt hs)
  have HF := Lib.hid (wr_word hw hB hk hs (turn_andNot (s := i % 64) (t := i % 64 + n) hx (by omega) hs) (by omega : 64 * (i / 64) + i % 64 = i) (by omega : i % 64 + n - i % 64 = n))
  clear hB hw hx hj
  generalize ws (i / 64) &&& cpl (msk (i % 64) (i % 64 + n)) = y at hv HF
  generalize msk (i % 64) (i % 64 + n) = m at hm hv
  go_enter Tryd.func31, Tryd.ntmps31
  go_wp2_with fail
  go_region
  go_wp2
  go_end0
  exact HF.out

set_option maxHeartbeats 1000000 in
theorem clrr_two (ws : Nat → Nat) (hw : W64 ws) (i n b : Nat) (T : TypeId) (w : World) (hi : i + n ≤ 512) (hn : 2 ≤ n) (hj : i / 64 < (i + n - 1) / 64) (hB : Blk w b T ws) :
    Calls Tryd.prog 31 #[.pointer (some ⟨b, 0, none⟩), .int .u64 i, .int .u64 n] w (Wr b T (page ws) i n false w) := by
  have hb : ((n : Int) == 1) = false := by rw [beq_eq_false_iff_ne]; omega
  have hj' : (((i : Int) / 64) == (((i : Int) + n - 1) / 64)) = false := by rw [beq_eq_false_iff_ne]; omega
  have hk : i / 64 < 8 := by omega
  have hk1 : (i + n - 1) / 64 < 8 := by omega
  have hs : i % 64 < 64 := by omega
  have hc := hB.at8 _ hk
  have hf := hB.free (i / 64)
  have hc1 := hB.at8 _ hk1
  have hx := hw _ hk
  have hm := wm3 (s := i % 64) hs
  have hv := andNot_nat (ws (i / 64)) (msk (i % 64) 64) hx (msk_lt (by omega))
  have hl0 : 0 ≤ (i : Int) / 64 + 1 := by omega
  have hl1 : (i : Int) / 64 + 1 ≤ ((i : Int) + n - 1) / 64 := by omega
  have hl2 : ((i : Int) + n - 1) / 64 ≤ 8 := by omega
  have hne : ¬ (8 = i / 64 + 1) := by omega
  have HF := Lib.hid (wr_word hw hB hk (by omega) (turn_andNot (s := i % 64) (t := 64) hx (by omega) (by omega)) (by omega : 64 * (i / 64) + i % 64 = i) (rfl))
  clear hB hx
  generalize ws (i / 64) &&& cpl (msk (i % 64) 64) = y at hv HF
  generalize msk (i % 64) 64 = m at hm hv
  obtain ⟨W, hrun, hW⟩ := clr_step (lo := i / 64 + 1) (m := (i + n - 1) / 64 - (i / 64 + 1)) (c := 7 - i / 64) HF.out (by omega) (by omega)
  have HX : Hid (∃ y' : Nat, ∃ x' m' : Nat, Hid (W.cell? ⟨b, (i + n - 1) / 64, none⟩ = some (.int .u64 x')) ∧ W.frozen? ⟨b, (i + n - 1) / 64, none⟩ = false ∧
      IntKind.u64.wrap (IntKind.u64.wrap (2 ^ ((i + n - 1) % 64 + 1) : Int) - 1) = ((m' : Nat) : Int) ∧ bits BinOp.andNot IntKind.u64 (x' : Int) (m' : Int) = (y' : Int) ∧
      Wr b T (page ws) i n false w (.returned (.tuple #[])) (W.setCell ⟨b, (i + n - 1) / 64, none⟩ (.int .u64 (y' : Nat))).drew) := by
    obtain ⟨-, ws', hw', hp, hB, hbel⟩ := hW
    have hx := hw' _ hk1
    have ht := turn_andNot (s := 0) (t := (i + n - 1) % 64 + 1) hx (by omega) (by omega)
    exact ⟨_, _, _, hB.at8 _ hk1, hB.free _, wm4 (t := (i + n - 1) % 64 + 1) (by omega), andNot_nat (ws' ((i + n - 1) / 64)) (msk 0 ((i + n - 1) % 64 + 1)) hx (msk_lt (by omega)),
      rfl, _, hw'.upd ht.1, (hp.join ((putPg_word (by omega) ht).same (by omega) rfl)).same rfl (by omega), hB.set hk1 _, (hbel.setCell (p := ⟨b, (i + n - 1) / 64, none⟩) (Nat.le_refl b) _).drew⟩
  clear hW HF hj
  go_enter Tryd.func31, Tryd.ntmps31
  go_wp2_with fail
  go_region
  go_wp2_with fail
  clear hc hf hc1 hrun hm hv
  obtain ⟨y', x', m', hc', hf, hm, hv, HF⟩ := HX.out
  have hc := hc'.out
  have HG := Lib.hid HF
  clear HX HF hc'
  go_region
  go_wp2
  go_end0
  exact HG.out

theorem clrr_core (ws : Nat → Nat) (hw : W64 ws) (i n b : Nat) (T : TypeId) (w : World) (hi : i + n ≤ 512) (hn : 1 ≤ n) (hB : Blk w b T ws) :
    Calls Tryd.prog 31 #[.pointer (some ⟨b, 0, none⟩), .int .u64 i, .int .u64 n] w (Wr b T (page ws) i n false w) := by
  by_cases h1 : n = 1
  · subst h1
    have hk : i / 64 < 8 := by omega
    have hc := hB.at8 _ hk
    have HC := Lib.hid (clear_core ws hw i b T w (by omega) hB)
    clear hB hw
    go_enter Tryd.func31, Tryd.ntmps31
    go_wp2_with (go_at_call 39; ((with_reducible refine (HC.out).mono ?_); rintro e w' ⟨rfl, h⟩))
    go_wp2
    go_end0
    exact ⟨rfl, h⟩
  · by_cases hj : (i + n - 1) / 64 = i / 64
    · exact clrr_one ws hw i n b T w hi (by omega) hj hB
    · exact clrr_two ws hw i n b T w hi (by omega) (by omega) hB

theorem pfree_core (ws : Nat → Nat) (hw : W64 ws) (i n b : Nat) (T : TypeId) (w : World) (hi : i + n ≤ 512) (hn : 1 ≤ n) (hB : Blk w b T ws) :
    Calls Tryd.prog 24 #[.pointer (some ⟨b, 0, none⟩), .int .u64 i, .int .u64 n] w (Wr b T (page ws) i n false w) := by
  have HC := Lib.hid (clrr_core ws hw i n b T w hi hn hB)
  clear hB hw
  go_enter Tryd.func24, Tryd.ntmps24
  go_wp2_with (go_at_call 31; ((with_reducible refine (HC.out).mono ?_); rintro e w' ⟨rfl, h⟩))
  go_end0
  exact ⟨rfl, h⟩

theorem mfree_core (ws : Nat → Nat) (hw : W64 ws) (i n : Nat) (w : World) (hi : i + n ≤ 512) (hn : 1 ≤ n) :
    Calls Tryd.prog 16 #[.agg (arr8 ws), .int .u64 i, .int .u64 n] w (Arr (page ws) i n false w) := by
  have HC := Lib.hid fun z => pfree_core ws hw i n (w.heap.size + 1 + 1) 57 (((w.alloc (.cells (arr8 ws) 50)).alloc (.cells z 50)).alloc (.cells (arr8 ws) 57)) hi hn (Blk.new _ _ _ _ (by simp))
  go_enter Tryd.func16, Tryd.ntmps16
  go_wp2_with (first | (go_at_call 24; ((refine (HC.out _).mono ?_); rintro e w1 ⟨rfl, ws', hw', hp, hB, hb⟩; have hR := res_block hb)) | (refine wpList_load_row rfl 57 (.tmp 7) rfl (w.heap.size + 1 + 1) rfl 57 (arr8 ws') (0, 0) _ hB Tryd.underlying57 rfl (by kernel_rfl) ?_) | (refine wpList_store_row rfl 50 (.tmp 6) (.tmp 12) rfl (w.heap.size + 1) (arr8 ws') rfl rfl 50 _ hR (by kernel_rfl) rfl (arr8_one ws') ?_))
  refine bodyPost_ret (results_cell_row rfl _ _ (w.heap.size + 1) 50 (arr8 ws') (0, 0) _ rfl (setRow_heap _ _ _ _ _ _ hR) Tryd.underlying50 rfl (by kernel_rfl)) rfl ?_
  exact ⟨ws', rfl, hw', hp, below_setRow (((((Below.refl _ _).alloc (Nat.le_refl _) _).alloc (by simp) _).alloc (by simp; omega) _).trans (hb.mono (by omega))) (by omega) _⟩

theorem ifree_core (ws : Nat → Nat) (hw : W64 ws) (i n : Nat) (w : World) (hi : i + n ≤ 512) (hn : 1 ≤ n) :
    Calls Tryd.prog 6 #[.agg (arr8 ws), .int .u64 i, .int .u64 n] w (Arr (page ws) i n false w) := by
  have HC := Lib.hid fun z => mfree_core ws hw i n ((w.alloc (.cells (arr8 ws) 24)).alloc (.cells z 24)) hi hn
  go_enter Tryd.func6, Tryd.ntmps6
  go_wp2_with (first | (go_at_call 16; ((refine (HC.out _).mono ?_); rintro e w1 ⟨ws', rfl, hw', hp, hb⟩; have hR := res_block2 hb)) | (refine wpList_store_row rfl 24 (.tmp 6) (.tmp 10) rfl (w.heap.size + 1) (arr8 ws') rfl rfl 24 _ hR (by kernel_rfl) rfl (arr8_one ws') ?_))
  refine bodyPost_ret (results_cell_row rfl _ _ (w.heap.size + 1) 24 (arr8 ws') (0, 0) _ rfl (setRow_heap _ _ _ _ _ _ hR) Tryd.underlying24 rfl (by kernel_rfl)) rfl ?_
  exact ⟨ws', rfl, hw', hp, below_setRow (below_two hb) (by omega) _⟩

end Go.Proofs.YtnopidgeigdibaaDoor
