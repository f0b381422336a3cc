/-
  setRange puts the pages from i to i+n-1 into use and leaves the others. Conditions: n is at least 1, i+n at most 512, the eight words are below 2^64 and are the whole block behind the pointer.
-/
import Derived.Test.YtnopidgeigdibaaDoorFind
import Derived.Test.YtnopidgeigdibaaDoorMask
import Derived.RegionTactic
import Derived.ChangeAlike
namespace Go.Proofs.YtnopidgeigdibaaDoor
open Go.RowKit

/-- Block b is an array of eight words. -/
def Blk (w : World) (b : Nat) (T : TypeId) (ws : Nat → Nat) : Prop := w.heap[b]? = some (.cells (arr8 ws) T (0, 0))

theorem Blk.at8 {w : World} {b : Nat} {T : TypeId} {ws : Nat → Nat} (h : Blk w b T ws) : At8 w b ws := by
  intro k hk
  unfold Blk at h
  simp only [World.cell?, h]
  match k, hk with
  | 0, _ => rfl
  | 1, _ => rfl
  | 2, _ => rfl
  | 3, _ => rfl
  | 4, _ => rfl
  | 5, _ => rfl
  | 6, _ => rfl
  | 7, _ => rfl
  | k + 8, h => omega

theorem Blk.free {w : World} {b : Nat} {T : TypeId} {ws : Nat → Nat} (h : Blk w b T ws) (k : Nat) : w.frozen? ⟨b, k, none⟩ = false := by
  unfold Blk at h
  simp [World.frozen?, h]

theorem Blk.lt {w : World} {b : Nat} {T : TypeId} {ws : Nat → Nat} (h : Blk w b T ws) : b < w.heap.size := by
  unfold Blk at h
  exact (Array.getElem?_eq_some_iff.mp h).1

theorem Blk.drew {w : World} {b : Nat} {T : TypeId} {ws : Nat → Nat} (h : Blk w b T ws) : Blk w.drew b T ws := h

theorem arr8_set (ws : Nat → Nat) (k y : Nat) (hk : k < 8) : (arr8 ws).setIfInBounds k (.int .u64 (y : Nat)) = arr8 (upd ws k y) := by
  match k, hk with
  | 0, _ => rfl
  | 1, _ => rfl
  | 2, _ => rfl
  | 3, _ => rfl
  | 4, _ => rfl
  | 5, _ => rfl
  | 6, _ => rfl
  | 7, _ => rfl
  | k + 8, h => omega

theorem Blk.set {w : World} {b : Nat} {T : TypeId} {ws : Nat → Nat} (h : Blk w b T ws) {k : Nat} (hk : k < 8) (y : Nat) : Blk (w.setCell ⟨b, k, none⟩ (.int .u64 (y : Nat))) b T (upd ws k y) := by
  unfold Blk at h ⊢
  simp only [World.setCell, Array.getElem?_modify, if_pos, h, Option.map_some]
  rw [arr8_set ws k y hk]
  rfl

theorem W64.upd {ws : Nat → Nat} (h : W64 ws) {k y : Nat} (hy : y < 18446744073709551616) : W64 (upd ws k y) := by
  intro j hj
  unfold YtnopidgeigdibaaDoor.upd
  split
  · exact hy
  · exact h j hj

/-- Nothing is handed back; block b's pages from i on, n of them, hold u; what lies below block b is as it was. -/
def Wr (b : Nat) (T : TypeId) (p : Nat → Bool) (i n : Nat) (u : Bool) (w : World) (e : Ending) (w' : World) : Prop :=
  e = .returned (.tuple #[]) ∧ ∃ ws', W64 ws' ∧ PutPg p i n u (page ws') ∧ Blk w' b T ws' ∧ Below b w w'

theorem wr_word {w : World} {b : Nat} {T : TypeId} {ws : Nat → Nat} (hw : W64 ws) (h : Blk w b T ws) {i n s t k y : Nat} {u : Bool} (hk : k < 8) (ht : t ≤ 64) (hy : Turn (ws k) s t u y) (h1 : 64 * k + s = i) (h2 : t - s = n) :
    Wr b T (page ws) i n u w (.returned (.tuple #[])) (w.setCell ⟨b, k, none⟩ (.int .u64 (y : Nat))).drew :=
  ⟨rfl, _, hw.upd hy.1, (putPg_word ht hy).same h1 h2, h.set hk y, ((Below.refl b w).setCell (p := ⟨b, k, none⟩) (Nat.le_refl b) _).drew⟩

set_option maxHeartbeats 400000 in
theorem set_core (ws : Nat → Nat) (hw : W64 ws) (i b : Nat) (T : TypeId) (w : World) (hi : i < 512) (hB : Blk w b T ws) :
    Calls Tryd.prog 40 #[.pointer (some ⟨b, 0, none⟩), .int .u64 i] w (Wr b T (page ws) i 1 true w) := by
  have hk : i / 64 < 8 := by omega
  have hc := hB.at8 _ hk
  have hf := hB.free (i / 64)
  have hx := hw _ hk
  have hm := wm1 (s := i % 64) (by omega)
  have hv := or_nat (ws (i / 64)) (msk (i % 64) (i % 64 + 1)) hx (msk_lt (by omega))
  have HF := Lib.hid (wr_word hw hB hk (by omega) (turn_or (s := i % 64) (t := i % 64 + 1) hx (by omega) (by omega)) (by omega : 64 * (i / 64) + i % 64 = i) (by omega : i % 64 + 1 - i % 64 = 1))
  clear hB hw hx
  generalize ws (i / 64) ||| msk (i % 64) (i % 64 + 1) = y at hv HF
  generalize msk (i % 64) (i % 64 + 1) = m at hm hv
  go_enter Tryd.func40, Tryd.ntmps40
  go_wp2
  go_region
  go_end0
  exact HF.out

set_option maxHeartbeats 400000 in
theorem setr_one (ws : Nat → Nat) (hw : W64 ws) (i n b : Nat) (T : TypeId) (w : World) (hi : i + n ≤ 512) (hn : 2 ≤ n) (hj : (i + n - 1) / 64 = i / 64) (hB : Blk w b T ws) :
    Calls Tryd.prog 35 #[.pointer (some ⟨b, 0, none⟩), .int .u64 i, .int .u64 n] w (Wr b T (page ws) i n true w) := by
  have hb : ((n : Int) == 1) = false := by rw [beq_eq_false_iff_ne]; omega
  have hj' : (((i : Int) / 64) == (((i : Int) + n - 1) / 64)) = true := by rw [beq_iff_eq]; omega
  have hs : i % 64 + n ≤ 64 := by omega
  have hk : i / 64 < 8 := by omega
  have hc := hB.at8 _ hk
  have hf := hB.free (i / 64)
  have hx := hw _ hk
  have hm := wm2 (s := i % 64) (n := n) hs
  have hv := or_nat (ws (i / 64)) (msk (i % 64) (i % 64 + n)) hx (msk_lt hs)
  have HF := Lib.hid (wr_word hw hB hk hs (turn_or (s := i % 64) (t := i % 64 + n) hx (by omega) hs) (by omega : 64 * (i / 64) + i % 64 = i) (by omega : i % 64 + n - i % 64 = n))
  clear hB hw hx hj
  generalize ws (i / 64) ||| msk (i % 64) (i % 64 + n) = y at hv HF
  generalize msk (i % 64) (i % 64 + n) = m at hm hv
  go_enter Tryd.func35, Tryd.ntmps35
  go_wp2_with fail
  go_region
  go_wp2
  go_end0
  exact HF.out

set_option maxHeartbeats 1000000 in
theorem setr_two (ws : Nat → Nat) (hw : W64 ws) (i n b : Nat) (T : TypeId) (w : World) (hi : i + n ≤ 512) (hn : 2 ≤ n) (hj : i / 64 < (i + n - 1) / 64) (hB : Blk w b T ws) :
    Calls Tryd.prog 35 #[.pointer (some ⟨b, 0, none⟩), .int .u64 i, .int .u64 n] w (Wr b T (page ws) i n true w) := by
  have hb : ((n : Int) == 1) = false := by rw [beq_eq_false_iff_ne]; omega
  have hj' : (((i : Int) / 64) == (((i : Int) + n - 1) / 64)) = false := by rw [beq_eq_false_iff_ne]; omega
  have hk : i / 64 < 8 := by omega
  have hk1 : (i + n - 1) / 64 < 8 := by omega
  have hs : i % 64 < 64 := by omega
  have hc := hB.at8 _ hk
  have hf := hB.free (i / 64)
  have hc1 := hB.at8 _ hk1
  have hx := hw _ hk
  have hm := wm3 (s := i % 64) hs
  have hv := or_nat (ws (i / 64)) (msk (i % 64) 64) hx (msk_lt (by omega))
  have HF := Lib.hid (wr_word hw hB hk (by omega) (turn_or (s := i % 64) (t := 64) hx (by omega) (by omega)) (by omega : 64 * (i / 64) + i % 64 = i) (rfl))
  clear hB hx
  generalize ws (i / 64) ||| msk (i % 64) 64 = y at hv HF
  generalize msk (i % 64) 64 = m at hm hv
  go_enter Tryd.func35, Tryd.ntmps35
  go_wp2_with fail
  go_region
  go_wp2_with fail
  clear hc hf hc1 hm hv
  go_loopw [7] (fun v wr => ∃ k : Nat, v = .int .u64 k ∧ i / 64 + 1 ≤ k ∧ k ≤ (i + n - 1) / 64 ∧ Hid (Wr b T (page ws) i (64 * k - i) true w (.returned (.tuple #[])) wr)) (fun v _ => 8 - (intOf v).toNat)
  case atStart => exact ⟨i / 64 + 1, by go_num, by omega, by omega, by rw [show 64 * (i / 64 + 1) - i = 64 - i % 64 by omega]; exact HF⟩
  case round =>
    clear HF
    obtain ⟨k, rfl, hk0, hk2, HF⟩ := hrel
    obtain ⟨-, ws', hw', hp, hB, hbel⟩ := HF.out
    have hf := hB.free k
    by_cases hlt : k < (i + n - 1) / 64
    · have hc := hB.at8 k (by omega)
      have HX : Hid (Wr b T (page ws) i (64 * (k + 1) - i) true w (.returned (.tuple #[])) (wr.setCell ⟨b, k, none⟩ (.int .u64 18446744073709551615))) := by
        have ht : Turn (ws' k) 0 64 true 18446744073709551615 := ⟨by omega, fun q hq => by rw [if_pos ⟨by omega, hq⟩, show (18446744073709551615 : Nat) = 2 ^ 64 - 1 from rfl, Nat.testBit_two_pow_sub_one]; simp [hq]⟩
        refine ⟨rfl, _, hw'.upd ht.1, (hp.join ((putPg_word (Nat.le_refl 64) ht).same (by omega) rfl)).same rfl (by omega), hB.set (by omega) _, hbel.setCell (p := ⟨b, k, none⟩) (Nat.le_refl b) _⟩
      clear hB hbel hp
      go_wp2_with fail
      go_roundw
      case rel => exact ⟨k + 1, by go_num, by omega, by omega, HX⟩
      case measure => simp [intOf]; omega
    · obtain rfl : k = (i + n - 1) / 64 := by omega
      have hc := hB.at8 _ hk1
      have hx := hw' _ hk1
      have hm := wm4 (t := (i + n - 1) % 64 + 1) (by omega)
      have hv := or_nat (ws' ((i + n - 1) / 64)) (msk 0 ((i + n - 1) % 64 + 1)) hx (msk_lt (by omega))
      have HX : Hid (Wr b T (page ws) i n true w (.returned (.tuple #[])) (wr.setCell ⟨b, (i + n - 1) / 64, none⟩ (.int .u64 (ws' ((i + n - 1) / 64) ||| msk 0 ((i + n - 1) % 64 + 1) : Nat))).drew) := by
        have ht := turn_or (s := 0) (t := (i + n - 1) % 64 + 1) hx (by omega) (by omega)
        refine ⟨rfl, _, hw'.upd ht.1, (hp.join ((putPg_word (by omega) ht).same (by omega) rfl)).same rfl (by omega), hB.set hk1 _, (hbel.setCell (p := ⟨b, (i + n - 1) / 64, none⟩) (Nat.le_refl b) _).drew⟩
      clear hB hbel hp hx
      generalize ws' ((i + n - 1) / 64) ||| msk 0 ((i + n - 1) % 64 + 1) = y at hv HX
      generalize msk 0 ((i + n - 1) % 64 + 1) = m at hm hv
      go_wp2_with fail
      go_region
      go_wp2
      go_end0
      exact HX.out

theorem setr_core (ws : Nat → Nat) (hw : W64 ws) (i n b : Nat) (T : TypeId) (w : World) (hi : i + n ≤ 512) (hn : 1 ≤ n) (hB : Blk w b T ws) :
    Calls Tryd.prog 35 #[.pointer (some ⟨b, 0, none⟩), .int .u64 i, .int .u64 n] w (Wr b T (page ws) i n true w) := by
  by_cases h1 : n = 1
  · subst h1
    have hk : i / 64 < 8 := by omega
    have hc := hB.at8 _ hk
    have HC := Lib.hid (set_core ws hw i b T w (by omega) hB)
    clear hB hw
    go_enter Tryd.func35, Tryd.ntmps35
    go_wp2_with (go_at_call 40; ((with_reducible refine (HC.out).mono ?_); rintro e w' ⟨rfl, h⟩))
    go_wp2
    go_end0
    exact ⟨rfl, h⟩
  · by_cases hj : (i + n - 1) / 64 = i / 64
    · exact setr_one ws hw i n b T w hi (by omega) hj hB
    · exact setr_two ws hw i n b T w hi (by omega) (by omega) hB

end Go.Proofs.YtnopidgeigdibaaDoor
