/-
  find1 returns the first free page, or the greatest number where there is none. Conditions: it searches from 0, the eight words are below 2^64 and lie behind the pointer, the table deBruijn64tab lies as laid.
-/
import Derived.Test.YtnopidgeigdibaaDoorFbr
import Derived.Test.YtnopidgeigdibaaDoorPgs
namespace Go.Proofs.YtnopidgeigdibaaDoor
open Go.RowKit

/-- Eight words lie in block b. -/
def At8 (w : World) (b : Nat) (ws : Nat → Nat) : Prop := ∀ k, k < 8 → w.cell? ⟨b, k, none⟩ = some (.int .u64 (ws k))
/-- Each of the eight words is below 2^64. -/
def W64 (ws : Nat → Nat) : Prop := ∀ k, k < 8 → ws k < 18446744073709551616

/-- The words below k are full. -/
def Full (ws : Nat → Nat) (k : Nat) : Prop := ∀ j, j < k → cpl (ws j) = 0

theorem find1_core (ws : Nat → Nat) (hw : W64 ws) (r : Nat) (hr : IsFind (page ws) 1 r) (b : Nat) (w : World) (hT : Tab w) (hc : At8 w b ws) :
    Calls Tryd.prog 26 #[.pointer (some ⟨b, 0, none⟩), .int .u64 0] w fun e w' => e = .returned (.int .u64 r) ∧ w = w' := by
  have HT := Lib.hid hT
  have HR := Lib.hid hr
  clear hT hr
  have h0 := hc 0 (by omega)
  go_enter Tryd.func26, Tryd.ntmps26
  go_wp2_with fail
  go_loop [5] (fun i => ∃ k : Nat, k ≤ 8 ∧ Full ws k ∧ i = .int .u64 k) (fun i => 8 - (intOf i).toNat)
  case atStart => exact ⟨0, by omega, fun j hj => absurd hj (by omega), rfl⟩
  case round =>
    clear h0
    obtain ⟨k, hk, HF, rfl⟩ := hrel
    by_cases hlt : k < 8
    · have hc := hc k hlt
      have hx := hw k hlt
      have hN := not_eq (ws k) hx
      by_cases hz : cpl (ws k) = 0
      · have HZ := Lib.hid hz
        have hb : ((cpl (ws k) : Int) == 0) = true := by rw [hz]; rfl
        clear hz
        generalize cpl (ws k) = y at hN hb
        go_wp2_with fail
        go_round
        case rel => exact ⟨k + 1, by omega, fun j hj => if h : j < k then HF j h else by rw [show j = k by omega]; exact HZ.out, by go_num⟩
        case measure => simp [intOf]; omega
      · obtain ⟨t, HZ, ht, hcall⟩ := tz_ex (cpl (ws k)) (cpl_lt _)
        obtain ⟨ht', hfind⟩ := find1_found hw hlt HF hz HZ
        obtain rfl := hfind.uniq HR.out
        have HC := Lib.hid hcall
        clear hcall hfind HZ
        have hb : ((cpl (ws k) : Int) == 0) = false := by rw [beq_eq_false_iff_ne]; omega
        clear hz
        generalize cpl (ws k) = y at hN HC hb
        go_wp2_with (go_at_call 34; refine (HC.out _ HT.out).mono ?_; rintro e w' ⟨rfl, rfl⟩)
        go_ret
        exact ⟨rfl, rfl⟩
    · obtain rfl : k = 8 := by omega
      obtain rfl := (find1_none hw HF).uniq HR.out
      go_wp2_with fail
      go_ret
      exact ⟨rfl, rfl⟩

theorem find1_ex (ws : Nat → Nat) (hw : W64 ws) : ∃ r : Nat, IsFind (page ws) 1 r ∧ r < 18446744073709551616 ∧ ∀ b w, Tab w → At8 w b ws →
    Calls Tryd.prog 26 #[.pointer (some ⟨b, 0, none⟩), .int .u64 0] w fun e w' => e = .returned (.int .u64 r) ∧ w = w' := by
  obtain ⟨r, hr⟩ := find_ex (page ws) 1
  exact ⟨r, hr, hr.le, fun b w hT hc => find1_core ws hw r hr b w hT hc⟩

end Go.Proofs.YtnopidgeigdibaaDoor
