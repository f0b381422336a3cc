/-
  The reference's Words returns eight words whose pages are the 512 bools. Conditions: the slice holds 512 bools.
-/
import Derived.Test.YtnopidgeigdibaaDoorSsum
namespace Go.Proofs.YtnopidgeigdibaaDoor
open Go.RowKit

/-- The words tell the pages below k, the others are free. -/
def WdTo (p : Nat → Bool) (k : Nat) (ws : Nat → Nat) : Prop := W64 ws ∧ ∀ q, q < 512 → page ws q = if q < k then p q else false

theorem WdTo.skip {p : Nat → Bool} {k : Nat} {ws : Nat → Nat} (h : WdTo p k ws) (hp : p k = false) : WdTo p (k + 1) ws := by
  refine ⟨h.1, fun q hq => ?_⟩
  rw [h.2 q hq]
  by_cases h1 : q < k
  · rw [if_pos h1, if_pos (by omega)]
  · rw [if_neg h1]
    by_cases h2 : q = k
    · subst h2; rw [if_pos (by omega), hp]
    · rw [if_neg (by omega)]

theorem WdTo.put {p : Nat → Bool} {k y : Nat} {ws : Nat → Nat} (h : WdTo p k ws) (hp : p k = true) (hy : Turn (ws (k / 64)) (k % 64) (k % 64 + 1) true y) : WdTo p (k + 1) (upd ws (k / 64) y) := by
  refine ⟨h.1.upd hy.1, fun q hq => ?_⟩
  rw [putPg_word (by omega) hy q hq]
  by_cases h2 : q = k
  · subst h2; rw [if_pos (by omega), if_pos (by omega), hp]
  · rw [if_neg (by omega), h.2 q hq]
    by_cases h1 : q < k
    · rw [if_pos h1, if_pos (by omega)]
    · rw [if_neg h1, if_neg (by omega)]

/-- Two rows of words that tell the same pages are one. -/
theorem words_uniq {ws ws' : Nat → Nat} (h : W64 ws) (h' : W64 ws') (he : ∀ q, q < 512 → page ws q = page ws' q) : arr8 ws = arr8 ws' := by
  have e : ∀ k, k < 8 → ws k = ws' k := fun k hk => by
    apply Nat.eq_of_testBit_eq
    intro i
    by_cases hi : i < 64
    · have := he (64 * k + i) (by omega)
      rwa [page_at ws k i hi, page_at ws' k i hi] at this
    · rw [tb_high (h k hk) (by omega), tb_high (h' k hk) (by omega)]
  unfold arr8
  rw [e 0 (by omega), e 1 (by omega), e 2 (by omega), e 3 (by omega), e 4 (by omega), e 5 (by omega), e 6 (by omega), e 7 (by omega)]

/-- Eight words are handed back whose pages are p; of what was there nothing has turned. -/
def WdB (p : Nat → Bool) (w : World) (e : Ending) (w' : World) : Prop := ∃ ws, e = .returned (.agg (arr8 ws)) ∧ W64 ws ∧ (∀ q, q < 512 → page ws q = p q) ∧ Below w.heap.size w w'

/-- Eight zeros. -/
abbrev zero8 : Array Value := #[.int .u64 0, .int .u64 0, .int .u64 0, .int .u64 0, .int .u64 0, .int .u64 0, .int .u64 0, .int .u64 0]

theorem zero_w64 : W64 fun _ => 0 := fun _ _ => show (0 : Nat) < 18446744073709551616 by omega
theorem zero_page (q : Nat) : page (fun _ => 0) q = false := by unfold page; exact Nat.zero_testBit _

set_option maxRecDepth 100000 in
set_option maxHeartbeats 1000000 in
theorem words_core (p : Nat → Bool) (g c : Nat) (w : World) (hc : BAt w g p) :
    Calls Tryd.prog 12 #[.slice (some ⟨g, 0, none⟩) 512 c] w (WdB p w) := by
  have hg := hc.lt
  have HC := Lib.hid hc
  clear hc
  go_enter Tryd.func12, Tryd.ntmps12
  go_wp2_with fail
  go_loopw [4] (fun v wr => ∃ k : Nat, k ≤ 512 ∧ v = .int .i64 k ∧ Hid (∃ ws, WdTo p k ws ∧ Blk wr (w.heap.size + 1) 24 ws) ∧ Hid (Below (w.heap.size + 1) ((w.alloc (.cells zero8 24)).alloc (.cells zero8 24)) wr)) (fun v _ => 512 - (intOf v).toNat)
  case atStart => exact ⟨0, by omega, rfl, ⟨fun _ => 0, ⟨zero_w64, fun q _ => by rw [zero_page, if_neg (by omega)]⟩, Blk.new (w.alloc (.cells zero8 24)) (fun _ => 0) 24 _ (by simp)⟩, Below.refl _ _⟩
  case round =>
    obtain ⟨k, hk, rfl, HF, HB⟩ := hrel
    obtain ⟨ws, hws, hblk⟩ := HF.out
    have hbw : Below w.heap.size w wr := (((Below.refl _ _).alloc (Nat.le_refl _) _).alloc (by simp) _).trans (HB.out.mono (by omega))
    by_cases hlt : k < 512
    · have hcell := (HC.out.below hg hbw) k hlt
      cases hp : p k with
      | true =>
        rw [hp] at hcell
        have hk8 : k / 64 < 8 := by omega
        have hc := hblk.at8 _ hk8
        have hf := hblk.free (k / 64)
        have hx := hws.1 _ hk8
        have hm := wm1 (s := k % 64) (by omega)
        have hv := or_nat (ws (k / 64)) (msk (k % 64) (k % 64 + 1)) hx (msk_lt (by omega))
        have ht := turn_or (x := ws (k / 64)) (s := k % 64) (t := k % 64 + 1) hx (by omega) (by omega)
        generalize ws (k / 64) ||| msk (k % 64) (k % 64 + 1) = y at hv ht
        generalize msk (k % 64) (k % 64 + 1) = m at hm hv
        have HX : Hid (∃ ws, WdTo p (k + 1) ws ∧ Blk (wr.setCell ⟨w.heap.size + 1, k / 64, none⟩ (.int .u64 (y : Nat))).drew (w.heap.size + 1) 24 ws) := ⟨_, hws.put hp ht, (hblk.set hk8 y).drew⟩
        have HY : Hid (Below (w.heap.size + 1) ((w.alloc (.cells zero8 24)).alloc (.cells zero8 24)) (wr.setCell ⟨w.heap.size + 1, k / 64, none⟩ (.int .u64 (y : Nat))).drew) := (HB.out.setCell (p := ⟨w.heap.size + 1, k / 64, none⟩) (Nat.le_refl _) _).drew
        clear hp hws hblk hbw HB HF ht hx
        go_wp2_with fail
        go_region
        go_wp2_with fail
        go_roundw
        case rel => exact ⟨k + 1, by omega, by go_num, HX, HY⟩
        case measure => simp [intOf]; omega
      | false =>
        rw [hp] at hcell
        have HX : Hid (∃ ws, WdTo p (k + 1) ws ∧ Blk wr (w.heap.size + 1) 24 ws) := ⟨_, hws.skip hp, hblk⟩
        clear hp hws hblk hbw HF
        go_wp2_with fail
        go_roundw
        case rel => exact ⟨k + 1, by omega, by go_num, HX, HB⟩
        case measure => simp [intOf]; omega
    · obtain rfl : k = 512 := by omega
      have hB : wr.heap[w.heap.size + 1]? = some (.cells (arr8 ws) 24 (0, 0)) := hblk
      have hR : wr.heap[w.heap.size]? = some (.cells zero8 24 (0, 0)) := by
        rw [HB.out.block _ (by omega)]
        show ((w.heap.push _).push _)[w.heap.size]? = _
        rw [Array.getElem?_push, if_neg (by simp), Array.getElem?_push, if_pos rfl]
      have HX : Hid (WdB p w (.returned (.agg (arr8 ws))) (wr.setRow w.heap.size (arr8 ws))) :=
        ⟨ws, rfl, hws.1, fun q hq => by rw [hws.2 q hq, if_pos hq], below_setRow hbw (Nat.le_refl _) _⟩
      clear hws hblk hbw HF HB
      go_wp2_with (first | (refine wpList_load_row rfl 24 (.tmp 3) rfl (w.heap.size + 1) rfl 24 (arr8 ws) (0, 0) _ hB Tryd.underlying24 rfl (by kernel_rfl) ?_) | (refine wpList_store_row rfl 24 (.tmp 2) (.tmp 22) rfl w.heap.size (arr8 ws) rfl rfl 24 _ hR (by kernel_rfl) rfl (arr8_one ws) ?_))
      refine bodyPost_ret (results_cell_row rfl _ _ w.heap.size 24 (arr8 ws) (0, 0) _ rfl (setRow_heap _ _ _ _ _ _ hR) Tryd.underlying24 rfl (by kernel_rfl)) rfl HX.out

end Go.Proofs.YtnopidgeigdibaaDoor
