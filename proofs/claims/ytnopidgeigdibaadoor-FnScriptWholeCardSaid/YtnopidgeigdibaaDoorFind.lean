/-
  find returns the first page of the first run of n free pages, or the greatest number where there is none. Conditions: n is from 1 to 512, it searches from 0, the eight words are below 2^64 and lie behind the pointer, the table deBruijn64tab lies as laid.
-/
import Derived.Test.YtnopidgeigdibaaDoorLarge
namespace Go.Proofs.YtnopidgeigdibaaDoor
open Go.RowKit

theorem find_core (ws : Nat → Nat) (hw : W64 ws) (n : Nat) (hn1 : 1 ≤ n) (hn : n ≤ 512) (r : Nat) (hr : IsFind (page ws) n r) (b : Nat) (w : World) (hT : Tab w) (hc : At8 w b ws) :
    Calls Tryd.prog 25 #[.pointer (some ⟨b, 0, none⟩), .int .u64 n, .int .u64 0] w (Fst r w) := by
  by_cases h1 : n = 1
  · subst h1
    have HC := Lib.hid (find1_core ws hw r hr b w hT hc)
    clear hT hc
    go_enter Tryd.func25, Tryd.ntmps25
    go_wp2_with (go_at_call 26; ((with_reducible refine (HC.out).mono ?_); rintro e w' ⟨rfl, rfl⟩))
    go_ret2
    exact fst_mk rfl
  · have hb : ((n : Int) == 1) = false := by rw [beq_eq_false_iff_ne]; omega
    by_cases h2 : n ≤ 64
    · have HC := Lib.hid (small_core ws hw n (by omega) h2 r hr b w hT hc)
      clear hT hc
      go_enter Tryd.func25, Tryd.ntmps25
      go_wp2_with (go_at_call 32; ((with_reducible refine (HC.out).mono ?_); rintro e w' ⟨s, rfl, rfl⟩))
      go_ret2
      exact fst_mk rfl
    · have HC := Lib.hid (large_core ws hw n (by omega) hn r hr b w hT hc)
      clear hT hc
      go_enter Tryd.func25, Tryd.ntmps25
      go_wp2_with (go_at_call 33; ((with_reducible refine (HC.out).mono ?_); rintro e w' ⟨s, rfl, rfl⟩))
      go_ret2
      exact fst_mk rfl

/-- The array that holds eight words. -/
abbrev arr8 (ws : Nat → Nat) : Array Value := #[.int .u64 (ws 0 : Nat), .int .u64 (ws 1 : Nat), .int .u64 (ws 2 : Nat), .int .u64 (ws 3 : Nat), .int .u64 (ws 4 : Nat), .int .u64 (ws 5 : Nat), .int .u64 (ws 6 : Nat), .int .u64 (ws 7 : Nat)]

theorem At8.new (w : World) (ws : Nat → Nat) (t : TypeId) (n : Nat) (hn : n = w.heap.size) : At8 (w.alloc (.cells (arr8 ws) t)) n ws := by
  intro k hk
  rw [World.cell?_alloc_at _ _ _ _ hn]
  match k, hk with
  | 0, _ => rfl
  | 1, _ => rfl
  | 2, _ => rfl
  | 3, _ => rfl
  | 4, _ => rfl
  | 5, _ => rfl
  | 6, _ => rfl
  | 7, _ => rfl
  | k + 8, h => omega

theorem Tab.lt {w : World} (h : Tab w) : 0 < w.heap.size := World.block_lt_of_cell? w _ (h 0 (by decide))
theorem Tab.below {w w' : World} {B : Nat} (h : Tab w) (hB : 0 < B) (hb : Below B w w') : Tab w' := fun j hj => by rw [hb.cell (p := ⟨0, j, none⟩) hB]; exact h j hj
theorem Tab.alloc {w : World} (h : Tab w) (o : Obj) : Tab (w.alloc o) := h.below h.lt ((Below.refl _ _).alloc (Nat.le_refl _) _)

/-- Two numbers are handed back, the first of which is r; of what was there nothing has turned. -/
def FstB (r : Nat) (w : World) (e : Ending) (w' : World) : Prop := ∃ s : Int, e = .returned (.tuple #[.int .u64 r, .int .u64 s]) ∧ Below w.heap.size w w'
/-- One number is handed back; of what was there nothing has turned. -/
def OneB (r : Nat) (w : World) (e : Ending) (w' : World) : Prop := e = .returned (.int .u64 r) ∧ Below w.heap.size w w'

theorem mfind_core (ws : Nat → Nat) (hw : W64 ws) (n : Nat) (hn1 : 1 ≤ n) (hn : n ≤ 512) (r : Nat) (hr : IsFind (page ws) n r) (w : World) (hT : Tab w) :
    Calls Tryd.prog 18 #[.agg (arr8 ws), .int .u64 n, .int .u64 0] w (FstB r w) := by
  have HC := Lib.hid (find_core ws hw n hn1 hn r hr (w.heap.size + 1) ((w.alloc (.cells (arr8 ws) 50)).alloc (.cells (arr8 ws) 57)) ((hT.alloc _).alloc _) (At8.new _ _ _ _ (by simp)))
  clear hT hr
  go_enter Tryd.func18, Tryd.ntmps18
  go_wp2_with (go_at_call 25; ((refine (HC.out).mono ?_); rintro e w' ⟨s, rfl, rfl⟩))
  go_ret2
  exact ⟨_, rfl, ((Below.refl _ _).alloc (Nat.le_refl _) _).alloc (by simp) _⟩

theorem ifind_core (ws : Nat → Nat) (hw : W64 ws) (n : Nat) (hn1 : 1 ≤ n) (hn : n ≤ 512) (r : Nat) (hr : IsFind (page ws) n r) (w : World) (hT : Tab w) :
    Calls Tryd.prog 9 #[.agg (arr8 ws), .int .u64 n, .int .u64 0] w (FstB r w) := by
  have HC := Lib.hid (mfind_core ws hw n hn1 hn r hr (w.alloc (.cells (arr8 ws) 24)) (hT.alloc _))
  clear hT hr
  go_enter Tryd.func9, Tryd.ntmps9
  go_wp2_with (go_at_call 18; ((refine (HC.out).mono ?_); rintro e w' ⟨s, rfl, hb⟩))
  go_ret2
  exact ⟨_, rfl, ((Below.refl _ _).alloc (Nat.le_refl _) _).trans (hb.mono (by simp))⟩

theorem mfind1_core (ws : Nat → Nat) (hw : W64 ws) (r : Nat) (hr : IsFind (page ws) 1 r) (w : World) (hT : Tab w) :
    Calls Tryd.prog 19 #[.agg (arr8 ws), .int .u64 0] w (OneB r w) := by
  have HC := Lib.hid (find1_core ws hw r hr (w.heap.size + 1) ((w.alloc (.cells (arr8 ws) 50)).alloc (.cells (arr8 ws) 57)) ((hT.alloc _).alloc _) (At8.new _ _ _ _ (by simp)))
  clear hT hr
  go_enter Tryd.func19, Tryd.ntmps19
  go_wp2_with (go_at_call 26; ((refine (HC.out).mono ?_); rintro e w' ⟨rfl, rfl⟩))
  go_ret
  exact ⟨rfl, ((Below.refl _ _).alloc (Nat.le_refl _) _).alloc (by simp) _⟩

theorem ifind1_core (ws : Nat → Nat) (hw : W64 ws) (r : Nat) (hr : IsFind (page ws) 1 r) (w : World) (hT : Tab w) :
    Calls Tryd.prog 10 #[.agg (arr8 ws), .int .u64 0] w (OneB r w) := by
  have HC := Lib.hid (mfind1_core ws hw r hr (w.alloc (.cells (arr8 ws) 24)) (hT.alloc _))
  clear hT hr
  go_enter Tryd.func10, Tryd.ntmps10
  go_wp2_with (go_at_call 19; ((refine (HC.out).mono ?_); rintro e w' ⟨rfl, hb⟩))
  go_ret
  exact ⟨rfl, ((Below.refl _ _).alloc (Nat.le_refl _) _).trans (hb.mono (by simp))⟩

theorem mbr_core (w : World) (hT : Tab w) : Calls Tryd.prog 23 #[.int .u64 6, .int .u64 2] w fun e w' => e = .returned (.int .u64 1) ∧ w = w' := by
  have hr : IsRange 6 2 1 := ⟨by omega, fun i hi ho => by have := ho 0 (by omega); rw [show i + 0 = 0 by omega] at this; exact absurd this (by decide), fun _ j hj => by
    match j, hj with
    | 0, _ => decide
    | 1, _ => decide
    | k + 2, h => omega⟩
  have HC := Lib.hid (fbr_core 6 2 1 (by omega) (by omega) (by omega) hr (by omega) w hT)
  clear hT hr
  go_enter Tryd.func23, Tryd.ntmps23
  go_wp2_with (go_at_call 30; ((refine (HC.out).mono ?_); rintro e w' ⟨rfl, rfl⟩))
  go_ret
  exact ⟨rfl, rfl⟩

theorem ibr_core (w : World) (hT : Tab w) : Calls Tryd.prog 15 #[.int .u64 6, .int .u64 2] w fun e w' => e = .returned (.int .u64 1) ∧ w = w' := by
  have HC := Lib.hid (mbr_core w hT)
  clear hT
  go_enter Tryd.func15, Tryd.ntmps15
  go_wp2_with (go_at_call 23; ((refine (HC.out).mono ?_); rintro e w' ⟨rfl, rfl⟩))
  go_ret
  exact ⟨rfl, rfl⟩

end Go.Proofs.YtnopidgeigdibaaDoor
