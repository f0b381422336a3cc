/-
  The reference's Put returns 512 bools in new memory, those from i to i+n-1 set to u, the others as they were. Conditions: the slice holds 512 bools, i+n is at most 512.
-/
import Derived.Test.YtnopidgeigdibaaDoorWds
namespace Go.Proofs.YtnopidgeigdibaaDoor
open Go.RowKit

/-- 512 bools as cells. -/
def bl (p : Nat → Bool) : List Value := (List.range 512).map fun i => Value.bool (p i)
theorem bl_len (p : Nat → Bool) : (bl p).length = 512 := by unfold bl; rw [List.length_map, List.length_range]
theorem bl_get (p : Nat → Bool) (j : Nat) (hj : j < 512) : (bl p)[j]? = some (.bool (p j)) := by
  unfold bl
  rw [List.getElem?_map, List.getElem?_range hj]
  rfl
theorem bl_one (p : Nat → Bool) : ∀ u ∈ bl p, u.oneCell' = true := by
  intro u hu
  unfold bl at hu
  obtain ⟨i, _, rfl⟩ := List.mem_map.mp hu
  rfl

/-- Block g begins with 512 bools and can be written. -/
def Row (w : World) (g : Nat) (p : Nat → Bool) : Prop := ∃ cur, w.heap[g]? = some (.cells cur 4 (0, 0)) ∧ ∀ q, q < 512 → cur[q]? = some (.bool (p q))

theorem Row.bat {w : World} {g : Nat} {p : Nat → Bool} (h : Row w g p) : BAt w g p := by
  obtain ⟨cur, h1, h2⟩ := h
  intro q hq
  rw [cell_of_row w g q cur 4 (0, 0) h1]
  exact h2 q hq
theorem Row.free {w : World} {g : Nat} {p : Nat → Bool} (h : Row w g p) (k : Nat) : w.frozen? ⟨g, k, none⟩ = false := by
  obtain ⟨cur, h1, _⟩ := h
  simp [World.frozen?, h1]
theorem Row.lt {w : World} {g : Nat} {p : Nat → Bool} (h : Row w g p) : g < w.heap.size := h.bat.lt
theorem Row.set {w : World} {g : Nat} {p : Nat → Bool} (h : Row w g p) {k : Nat} (hk : k < 512) (u : Bool) : Row (w.setCell ⟨g, k, none⟩ (.bool u)) g fun q => if q = k then u else p q := by
  obtain ⟨cur, h1, h2⟩ := h
  refine ⟨cur.setIfInBounds k (.bool u), ?_, fun q hq => ?_⟩
  · simp only [World.setCell, Array.getElem?_modify, if_pos, h1, Option.map_some]
    rfl
  · rw [Array.getElem?_setIfInBounds]
    by_cases hqk : k = q
    · subst hqk
      have hl : k < cur.size := (Array.getElem?_eq_some_iff.mp (h2 k hk)).1
      rw [if_pos rfl, if_pos hl]
      show _ = some (Value.bool (if k = k then u else p k))
      rw [if_pos rfl]
    · rw [if_neg hqk]
      show _ = some (Value.bool (if q = k then u else p q))
      rw [if_neg (by omega)]
      exact h2 q hq
theorem Row.kept {w w' : World} {g : Nat} {p : Nat → Bool} (h : Row w g p) (hk : w'.heap[g]? = w.heap[g]?) : Row w' g p := by
  obtain ⟨cur, h1, h2⟩ := h
  exact ⟨cur, by rw [hk]; exact h1, h2⟩

/-- An owned row of 512 bools: its place. -/
theorem row_of_own {w : World} {base : Nat} {v : Value} {p : Nat → Bool} (h : w.ownsRow base 4 1 v 512 (bl p)) : ∃ g cap, v = .slice (some ⟨g, 0, none⟩) 512 cap ∧ base ≤ g ∧ Row w g p := by
  obtain ⟨h1, h2 | ⟨g, cap, cur, hv, hg, hh, hn, hc, hs, ht⟩⟩ := h
  · omega
  · refine ⟨g, cap, hv, hg, cur, hh, fun q hq => ?_⟩
    have : (cur.toList.take (512 * 1))[q]? = (bl p)[q]? := by rw [ht]
    rw [bl_get p q hq, List.getElem?_take, if_pos (by omega)] at this
    simpa using this

/-- 512 bools are handed back in new memory; of what was there nothing has turned. -/
def Bools (p : Nat → Bool) (w : World) (e : Ending) (w' : World) : Prop := ∃ g cap, e = .returned (.slice (some ⟨g, 0, none⟩) 512 cap) ∧ w.heap.size ≤ g ∧ Row w' g p ∧ Below w.heap.size w w'

/-- The pages p, those from i to k-1 set to u. -/
def mid (p : Nat → Bool) (i k : Nat) (u : Bool) : Nat → Bool := fun q => if i ≤ q ∧ q < k then u else p q

theorem mid_step (p : Nat → Bool) (i k : Nat) (u : Bool) (hk : i ≤ k) : (fun q => if q = k then u else mid p i k u q) = mid p i (k + 1) u := by
  funext q
  unfold mid
  by_cases h : q = k
  · rw [if_pos h, if_pos (by omega)]
  · rw [if_neg h]
    by_cases h2 : i ≤ q ∧ q < k
    · rw [if_pos h2, if_pos (by omega)]
    · rw [if_neg h2, if_neg (by omega)]

theorem mid_start (p : Nat → Bool) (i : Nat) (u : Bool) : mid p i i u = p := by
  funext q
  unfold mid
  rw [if_neg (by omega)]

theorem info4 : (Tryd.prog.info? 4).map (fun i => (i.zero, i.size, i.bytes)) = some (some (.bool false), 1, 1) := by kernel_rfl

set_option maxRecDepth 100000 in
set_option maxHeartbeats 1000000 in
theorem put_core (p : Nat → Bool) (i n : Nat) (u : Bool) (hi : i + n ≤ 512) (g c : Nat) (w : World) (hc : BAt w g p) :
    Calls Tryd.prog 7 #[.slice (some ⟨g, 0, none⟩) 512 c, .int .i64 i, .int .i64 n, .bool u] w (Bools (mid p i (i + n) u) w) := by
  obtain ⟨i0, hi0, hz0, hz1, hz2⟩ := info_parts info4
  have hown : (w.alloc (.cells #[] 4)).ownsRow w.heap.size 4 1 (.slice (some ⟨w.heap.size, 0, none⟩) 0 0) 0 [] :=
    ⟨rfl, Or.inr ⟨w.heap.size, 0, #[], rfl, Nat.le_refl _, by show (w.heap.push _)[w.heap.size]? = _; rw [Array.getElem?_push, if_pos rfl], Nat.le_refl _, Nat.zero_le _, rfl, rfl⟩⟩
  have hcells : ∀ j v, (bl p)[j]? = some v → (w.alloc (.cells #[] 4)).cell? (Addr.add ⟨g, 0, none⟩ j) = some v := by
    intro j v hv
    have hj : j < 512 := by have := (List.getElem?_eq_some_iff.mp hv).1; rwa [bl_len] at this
    rw [bl_get p j hj] at hv
    have e : Addr.add ⟨g, 0, none⟩ j = ⟨g, j, none⟩ := by unfold Addr.add; split <;> simp_all
    rw [e, (hc.alloc _) j hj, hv]
  have HO := Lib.hid hown
  have HCL := Lib.hid hcells
  have HI := Lib.hid (And.intro hi0 (And.intro hz0 (And.intro hz1 hz2)))
  clear hc hown hcells hi0 hz0 hz1 hz2
  go_enter Tryd.func7, Tryd.ntmps7
  go_wp2_with (at_builtin; refine wpList_append_own _ rfl (.tmp 11) (.tmp 12) 25 rfl w.heap.size 4 i0 (.bool false) 1 1 Tryd.underlying25 HI.out.1 HI.out.2.1 HI.out.2.2.1 HI.out.2.2.2 rfl (by decide) _ 0 [] rfl HO.out ⟨g, 0, none⟩ 512 c (bl p) rfl (by rw [bl_len]) HCL.out (bl_one p) (by unfold maxLen; omega) (by omega) (by simp) ?_; intro v' w1 hown1 hgrow _)
  have hg1 : (w.alloc (.cells #[] 4)).grownBy w1 (some w.heap.size) := hgrow
  have hB1 : Below w.heap.size w w1 := ((Below.refl w.heap.size w).alloc (Nat.le_refl _) _).grown hg1 (by simp) (fun k hk => by injection hk; omega)
  simp only [Nat.zero_add, List.nil_append] at hown1
  obtain ⟨g', cap, hv, hgg, hrow⟩ := row_of_own hown1
  subst hv
  have HR := Lib.hid hrow
  have HB := Lib.hid hB1
  clear hown1 hgrow hg1 hB1 hrow HO HCL HI
  go_loopw [10] (fun v wr => ∃ k : Nat, i ≤ k ∧ k ≤ i + n ∧ v = .int .i64 k ∧ Hid (Row wr g' (mid p i k u)) ∧ Hid (Below w.heap.size w wr)) (fun v _ => 512 - (intOf v).toNat)
  case atStart => exact ⟨i, by omega, by omega, rfl, by rw [mid_start]; exact HR, HB⟩
  case round =>
    clear HR HB
    obtain ⟨k, hk0, hk, rfl, HR, HB⟩ := hrel
    by_cases hlt : k < i + n
    · have hc := HR.out.bat k (by omega)
      have hf := HR.out.free k
      have HR1 : Hid (Row (wr.setCell ⟨g', k, none⟩ (.bool u)) g' (mid p i (k + 1) u)) := by rw [← mid_step p i k u hk0]; exact HR.out.set (by omega) u
      have HB1 : Hid (Below w.heap.size w (wr.setCell ⟨g', k, none⟩ (.bool u))) := HB.out.setCell (p := ⟨g', k, none⟩) hgg _
      clear HR HB
      go_wp2_with fail
      go_roundw
      case rel => exact ⟨k + 1, by omega, by omega, by go_num, HR1, HB1⟩
      case measure => simp [intOf]; omega
    · obtain rfl : k = i + n := by omega
      go_wp2_with fail
      go_ret
      exact ⟨g', cap, rfl, hgg, HR.out, HB.out⟩

end Go.Proofs.YtnopidgeigdibaaDoor
