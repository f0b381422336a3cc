/-
  The reference's First returns the first page of the first run of n free pages, 512 where there is none; its Run returns how many pages are free from a place on. Conditions: the slice holds 512 bools, n is from 1 to 512, the place is at most 512.
-/
import Derived.Test.YtnopidgeigdibaaDoorFind
import Derived.Test.YtnopidgeigdibaaDoorSumi
namespace Go.Proofs.YtnopidgeigdibaaDoor
open Go.RowKit

/-- 512 bools lie in block g. -/
def BAt (w : World) (g : Nat) (p : Nat → Bool) : Prop := ∀ i, i < 512 → w.cell? ⟨g, i, none⟩ = some (.bool (p i))

theorem free_core (p : Nat → Bool) (i n : Nat) (hi : i < 512) (hn : n ≤ 512) (bv : Bool) (hbv : bv = true ↔ RunAt p i n) (g c : Nat) (w : World) (hc : BAt w g p) :
    Calls Tryd.prog 17 #[.slice (some ⟨g, 0, none⟩) 512 c, .int .i64 i, .int .i64 n] w fun e w' => e = .returned (.bool bv) ∧ w = w' := by
  have HB := Lib.hid hbv
  clear hbv
  by_cases hin : 512 < i + n
  · obtain rfl : bv = false := by
      cases bv
      · rfl
      · have := (HB.out.1 rfl).1; omega
    go_enter Tryd.func17, Tryd.ntmps17
    go_wp2_with fail
    go_ret
    exact ⟨rfl, rfl⟩
  · go_enter Tryd.func17, Tryd.ntmps17
    go_wp2_with fail
    go_loop [7] (fun v => ∃ k : Nat, i ≤ k ∧ k ≤ i + n ∧ Hid (∀ q, i ≤ q → q < k → p q = false) ∧ v = .int .i64 k) (fun v => i + n - (intOf v).toNat)
    case atStart => exact ⟨i, by omega, by omega, fun q h1 h2 => absurd h2 (by omega), rfl⟩
    case round =>
      obtain ⟨k, h1, h2, HF, rfl⟩ := hrel
      by_cases hlt : k < i + n
      · have hc := hc k (by omega)
        cases hp : p k with
        | true =>
          rw [hp] at hc
          obtain rfl : bv = false := by
            cases bv
            · rfl
            · have := (HB.out.1 rfl).2 (k - i) (by omega)
              rw [show i + (k - i) = k by omega, hp] at this
              cases this
          clear hp
          go_wp2_with fail
          go_ret
          exact ⟨rfl, rfl⟩
        | false =>
          rw [hp] at hc
          have HP := Lib.hid hp
          clear hp
          go_wp2_with fail
          go_round
          case rel => exact ⟨k + 1, by omega, by omega, fun q a b => if h : q < k then HF q a h else by rw [show q = k by omega]; exact HP.out, by go_num⟩
          case measure => simp [intOf]; omega
      · obtain rfl : bv = true := HB.out.2 ⟨by omega, fun q hq => HF (i + q) (by omega) (by omega)⟩
        go_wp2_with fail
        go_ret
        exact ⟨rfl, rfl⟩

set_option maxRecDepth 100000 in
theorem first_core (p : Nat → Bool) (n r : Nat) (hn : n ≤ 512) (hr : IsFirst p n r) (g c : Nat) (w : World) (hc : BAt w g p) :
    Calls Tryd.prog 8 #[.slice (some ⟨g, 0, none⟩) 512 c, .int .i64 n] w fun e w' => e = .returned (.int .i64 r) ∧ w = w' := by
  have HR := Lib.hid hr
  have HC := Lib.hid fun i hi bv hbv => free_core p i n hi hn bv hbv g c w hc
  clear hr hc
  go_enter Tryd.func8, Tryd.ntmps8
  go_wp2_with fail
  go_loop [5] (fun v => ∃ k : Nat, k ≤ 512 ∧ Hid (∀ q, q < k → ¬ RunAt p q n) ∧ v = .int .i64 k) (fun v => 512 - (intOf v).toNat)
  case atStart => exact ⟨0, by omega, fun q h => absurd h (by omega), rfl⟩
  case round =>
    obtain ⟨k, hk, HF, rfl⟩ := hrel
    by_cases hlt : k < 512
    · by_cases hrun : RunAt p k n
      · have HC1 := Lib.hid (HC.out k hlt true ⟨fun _ => hrun, fun _ => rfl⟩)
        obtain rfl : k = r := IsFirst.uniq ⟨hk, HF, fun _ => hrun⟩ HR.out
        clear hrun
        go_wp2_with (go_at_call 17; ((with_reducible refine (HC1.out).mono ?_); rintro e w' ⟨rfl, rfl⟩))
        go_ret
        exact ⟨rfl, rfl⟩
      · have HC1 := Lib.hid (HC.out k hlt false ⟨fun h => (by cases h), fun h => absurd h hrun⟩)
        have HN := Lib.hid hrun
        clear hrun
        go_wp2_with (go_at_call 17; ((with_reducible refine (HC1.out).mono ?_); rintro e w' ⟨rfl, rfl⟩))
        go_round
        case rel => exact ⟨k + 1, by omega, fun q a => if h : q < k then HF q h else by rw [show q = k by omega]; exact HN.out, by go_num⟩
        case measure => simp [intOf]; omega
    · obtain rfl : k = 512 := by omega
      obtain rfl : 512 = r := IsFirst.uniq ⟨by omega, HF, fun h => absurd h (by omega)⟩ HR.out
      go_wp2_with fail
      go_ret
      exact ⟨rfl, rfl⟩

/-- n pages are free from i on, and no more. -/
def IsRun (p : Nat → Bool) (i n : Nat) : Prop := RunAt p i n ∧ (i + n < 512 → p (i + n) = true)

theorem IsRun.uniq {p : Nat → Bool} {i n m : Nat} (hn : IsRun p i n) (hm : IsRun p i m) : n = m := by
  obtain ⟨⟨a, b⟩, c⟩ := hn
  obtain ⟨⟨a', b'⟩, c'⟩ := hm
  rcases Nat.lt_trichotomy n m with h | h | h
  · have := b' n h; rw [c (by omega)] at this; cases this
  · exact h
  · have := b m h; rw [c' (by omega)] at this; cases this

theorem run_ex (p : Nat → Bool) (i : Nat) (hi : i ≤ 512) : ∃ n, IsRun p i n := by
  obtain ⟨n, hn, hmin⟩ := first_of (fun n => 512 ≤ i + n ∨ p (i + n) = true) ⟨512, Or.inl (by omega)⟩
  have hle : i + n ≤ 512 := by
    by_cases h0 : n = 0
    · omega
    · apply Nat.le_of_not_lt
      intro hlt
      exact hmin (n - 1) (by omega) (Or.inl (by omega))
  refine ⟨n, ⟨hle, fun k hk => ?_⟩, fun hlt => ?_⟩
  · have := hmin k hk
    cases hp : p (i + k) with
    | true => exact absurd (Or.inr hp) this
    | false => rfl
  · rcases hn with h | h
    · omega
    · exact h

theorem IsRun.start {p : Nat → Bool} {s : Nat} (h : IsRun p 0 s) : IsStart p s := by
  obtain ⟨⟨a, b⟩, c⟩ := h
  refine ⟨by omega, fun j hj => by have := b j hj; rwa [Nat.zero_add] at this, fun hl => by have := c (by omega); rwa [Nat.zero_add] at this⟩

set_option maxRecDepth 100000 in
theorem run_core (p : Nat → Bool) (i n : Nat) (hr : IsRun p i n) (g c : Nat) (w : World) (hc : BAt w g p) :
    Calls Tryd.prog 22 #[.slice (some ⟨g, 0, none⟩) 512 c, .int .i64 i] w fun e w' => e = .returned (.int .i64 n) ∧ w = w' := by
  have HR := Lib.hid hr
  have hin := hr.1.1
  clear hr
  go_enter Tryd.func22, Tryd.ntmps22
  go_wp2_with fail
  go_loop [5] (fun v => ∃ k : Nat, k ≤ n ∧ v = .int .i64 k) (fun v => 512 - (intOf v).toNat)
  case atStart => exact ⟨0, by omega, rfl⟩
  case round =>
    obtain ⟨k, hk, rfl⟩ := hrel
    by_cases hlt : k < n
    · have hp := HR.out.1.2 k hlt
      have hc := hc (i + k) (by omega)
      rw [hp] at hc
      clear hp
      go_wp2_with fail
      go_round
      case rel => exact ⟨k + 1, by omega, by go_num⟩
      case measure => simp [intOf]; omega
    · obtain rfl : k = n := by omega
      by_cases hlt5 : i + k < 512
      · have hp := HR.out.2 hlt5
        have hc := hc (i + k) (by omega)
        rw [hp] at hc
        clear hp
        go_wp2_with fail
        go_ret
        exact ⟨rfl, rfl⟩
      · go_wp2_with fail
        go_ret
        exact ⟨rfl, rfl⟩

end Go.Proofs.YtnopidgeigdibaaDoor
