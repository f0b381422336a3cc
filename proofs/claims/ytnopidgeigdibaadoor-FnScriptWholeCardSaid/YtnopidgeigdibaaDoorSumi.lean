/-
  Summarize returns how many pages are free at the start, in the longest run, and at the end. Conditions: the eight words are below 2^64, the table deBruijn64tab lies as laid.
-/
import Derived.Test.YtnopidgeigdibaaDoorSumz
namespace Go.Proofs.YtnopidgeigdibaaDoor
open Go.RowKit

theorem three_one (s m e : Nat) : (#[Value.int .u64 (s : Nat), .int .u64 (m : Nat), .int .u64 (e : Nat)] : Array Value).all (·.oneCell') = true := by simp [Value.oneCell']

theorem msum_core (ws : Nat → Nat) (hw : W64 ws) (s m e : Nat) (hs : IsStart (page ws) s) (hm : IsMax (page ws) m) (he : IsEnd (page ws) e) (w : World) (hT : Tab w) :
    Calls Tryd.prog 21 #[.agg (arr8 ws)] w (SumB s m e w) := by
  have hs5 := hs.1
  have hm5 : m ≤ 512 := by obtain ⟨⟨a, ha⟩, _⟩ := hm; have := ha.1; omega
  have he5 := he.1
  have HC := Lib.hid fun z => sumz_core ws hw s m e hs hm he (w.heap.size + 1 + 1) (((w.alloc (.cells (arr8 ws) 50)).alloc (.cells z 55)).alloc (.cells (arr8 ws) 57)) (((hT.alloc _).alloc _).alloc _) (At8.new _ _ _ _ (by simp))
  have HU := Lib.hid (munpack_core s m e hs5 hm5 he5)
  clear hs hm he hT
  go_enter Tryd.func21, Tryd.ntmps21
  go_wp2_with (first | (go_at_call 29; ((refine (HC.out _).mono ?_); rintro e w1 ⟨rfl, rfl⟩)) | (go_at_call 28; ((refine (HU.out _).mono ?_); rintro e w1 ⟨rfl, hb⟩; have hR := res_block (hb.mono (by simp)))) | (refine wpList_store_row rfl 55 (.tmp 2) (.tmp 6) rfl (w.heap.size + 1) #[.int .u64 s, .int .u64 m, .int .u64 e] rfl rfl 55 _ hR (by kernel_rfl) rfl (three_one s m e) ?_))
  refine bodyPost_ret (results_cell_row rfl _ _ (w.heap.size + 1) 55 #[.int .u64 s, .int .u64 m, .int .u64 e] (0, 0) _ rfl (setRow_heap _ _ _ _ _ _ hR) Tryd.underlying55 rfl (by kernel_rfl)) rfl ?_
  exact ⟨rfl, below_setRow (((((Below.refl _ _).alloc (Nat.le_refl _) _).alloc (by simp) _).alloc (by simp; omega) _).trans (hb.mono (by simp; omega))) (by omega) _⟩

theorem isum_core (ws : Nat → Nat) (hw : W64 ws) (s m e : Nat) (hs : IsStart (page ws) s) (hm : IsMax (page ws) m) (he : IsEnd (page ws) e) (w : World) (hT : Tab w) :
    Calls Tryd.prog 13 #[.agg (arr8 ws)] w (SumB s m e w) := by
  have HC := Lib.hid fun z => msum_core ws hw s m e hs hm he ((w.alloc (.cells (arr8 ws) 24)).alloc (.cells z 44)) ((hT.alloc _).alloc _)
  clear hs hm he hT
  go_enter Tryd.func13, Tryd.ntmps13
  go_wp2_with (first | (go_at_call 21; ((refine (HC.out _).mono ?_); rintro e w1 ⟨rfl, hb⟩; have hR := res_block2 hb)) | (refine wpList_store_row rfl 44 (.tmp 2) (.tmp 4) rfl (w.heap.size + 1) #[.int .u64 s, .int .u64 m, .int .u64 e] rfl rfl 44 _ hR (by kernel_rfl) rfl (three_one s m e) ?_))
  refine bodyPost_ret (results_cell_row rfl _ _ (w.heap.size + 1) 44 #[.int .u64 s, .int .u64 m, .int .u64 e] (0, 0) _ rfl (setRow_heap _ _ _ _ _ _ hR) Tryd.underlying44 rfl (by kernel_rfl)) rfl ?_
  exact ⟨rfl, below_setRow (below_two hb) (by omega) _⟩

end Go.Proofs.YtnopidgeigdibaaDoor
