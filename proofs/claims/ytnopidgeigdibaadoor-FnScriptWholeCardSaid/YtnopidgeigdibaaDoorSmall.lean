/-
  findSmallN returns the first run of n free pages, or the greatest number where there is none. Conditions: n is from 2 to 64, it searches from 0, the eight words are below 2^64 and lie behind the pointer, the table deBruijn64tab lies as laid.
-/
import Derived.Test.YtnopidgeigdibaaDoorFind1
namespace Go.Proofs.YtnopidgeigdibaaDoor
open Go.RowKit

/-- Two numbers are handed back, the first of which is r; the world is as it was. -/
def Fst (r : Nat) (w : World) (e : Ending) (w' : World) : Prop := ∃ s : Int, e = .returned (.tuple #[.int .u64 r, .int .u64 s]) ∧ w = w'

theorem fst_mk {r : Nat} {a s : Int} {w : World} (h : a = r) : Fst r w (.returned (.tuple #[.int .u64 a, .int .u64 s])) w := ⟨s, by rw [h], rfl⟩

set_option maxHeartbeats 1000000 in
theorem small_core (ws : Nat → Nat) (hw : W64 ws) (n : Nat) (hn1 : 2 ≤ n) (hn : n ≤ 64) (r : Nat) (hr : IsFind (page ws) n r) (b : Nat) (w : World) (hT : Tab w) (hc : At8 w b ws) :
    Calls Tryd.prog 32 #[.pointer (some ⟨b, 0, none⟩), .int .u64 n, .int .u64 0] w (Fst r w) := by
  have HT := Lib.hid hT
  have HR := Lib.hid hr
  clear hT hr
  go_enter Tryd.func32, Tryd.ntmps32
  go_wp2_with fail
  go_loop [8, 9, 10] (fun e s i => ∃ (k en : Nat) (sn : Int), k ≤ 8 ∧ Hid (Sm (page ws) n k en) ∧ e = .int .u64 en ∧ s = .int .u64 sn ∧ i = .int .u64 k) (fun _ _ i => 8 - (intOf i).toNat)
  case atStart => exact ⟨0, 0, _, by omega, Sm.start _ (by omega), rfl, rfl, rfl⟩
  case round =>
    obtain ⟨k, en, sn, hk, HF, rfl, rfl, rfl⟩ := hrel
    obtain ⟨he1, he2, -⟩ := HF.out
    by_cases hlt : k < 8
    · have hc := hc k hlt
      have hx := hw k hlt
      have hN := not_eq (ws k) hx
      by_cases hz : cpl (ws k) = 0
      · have HZ := Lib.hid (Sm.full hw HF.out hlt hz)
        have hb : ((cpl (ws k) : Int) == 0) = true := by rw [hz]; rfl
        clear hz
        generalize cpl (ws k) = y at hN hb
        go_wp2_with fail
        go_round
        case rel => exact ⟨k + 1, 0, sn, by omega, HZ, rfl, rfl, by go_num⟩
        case measure => simp [intOf]; omega
      · obtain ⟨t1, -, ht1, hcall1⟩ := tz_ex (cpl (ws k)) (cpl_lt _)
        obtain ⟨t, HZ, ht, hcall⟩ := tz_ex (ws k) hx
        have HC1 := Lib.hid hcall1
        have HC := Lib.hid hcall
        clear hcall1 hcall
        have hb : ((cpl (ws k) : Int) == 0) = false := by rw [beq_eq_false_iff_ne]; omega
        clear hz
        by_cases hj : n ≤ en + t
        · obtain rfl := (HF.out.joined hlt HZ hj).uniq HR.out
          clear HZ
          generalize cpl (ws k) = y at hN HC1 hb
          generalize ws k = x at hc hx HC hN
          go_wp2_with (first | (go_at_call 34; ((with_reducible refine (HC1.out _ HT.out).mono ?_); rintro e w' ⟨rfl, rfl⟩)) | (go_at_call 34; ((with_reducible refine (HC.out _ HT.out).mono ?_); rintro e w' ⟨rfl, rfl⟩)))
          all_goals (go_ret2; exact fst_mk (by omega))
        · obtain ⟨j, HJ, hj64, hcallj⟩ := fbr_ex (cpl (ws k)) n (cpl_lt _) (by omega) hn
          have HCJ := Lib.hid hcallj
          clear hcallj
          by_cases hjj : j < 64
          · obtain rfl := (HF.out.inside hw hlt HZ (by omega) hn HJ hjj).uniq HR.out
            clear HZ HJ
            generalize cpl (ws k) = y at hN HC1 hb HCJ
            generalize ws k = x at hc hx HC hN
            go_wp2_with (first | (go_at_call 34; ((with_reducible refine (HC1.out _ HT.out).mono ?_); rintro e w' ⟨rfl, rfl⟩)) | (go_at_call 34; ((with_reducible refine (HC.out _ HT.out).mono ?_); rintro e w' ⟨rfl, rfl⟩)) | (go_at_call 30; ((with_reducible refine (HCJ.out _ HT.out).mono ?_); rintro e w' ⟨rfl, rfl⟩)))
            all_goals (go_ret2; exact fst_mk (by omega))
          · obtain ⟨l, HL, hl64, hcalll⟩ := lz_ex (ws k) hx
            have HCL := Lib.hid hcalll
            clear hcalll
            have HX := Lib.hid (HF.out.next hw hlt HZ (by omega) hn HJ (by omega) HL)
            clear HZ HJ HL
            generalize cpl (ws k) = y at hN HC1 hb HCJ
            generalize ws k = x at hc hx HC hN HCL
            go_wp2_with (first | (go_at_call 34; ((with_reducible refine (HC1.out _ HT.out).mono ?_); rintro e w' ⟨rfl, rfl⟩)) | (go_at_call 34; ((with_reducible refine (HC.out _ HT.out).mono ?_); rintro e w' ⟨rfl, rfl⟩)) | (go_at_call 30; ((with_reducible refine (HCJ.out _ HT.out).mono ?_); rintro e w' ⟨rfl, rfl⟩)) | (go_at_call 37; ((with_reducible refine (HCL.out _).mono ?_); rintro e w' ⟨rfl, rfl⟩)))
            all_goals
              go_round
              case rel => exact ⟨k + 1, l, _, by omega, HX, rfl, rfl, by go_num⟩
              case measure => simp [intOf]; omega
    · obtain rfl : k = 8 := by omega
      obtain rfl := HF.out.none.uniq HR.out
      go_wp2_with fail
      go_ret2
      exact fst_mk rfl

theorem small_ex (ws : Nat → Nat) (hw : W64 ws) (n : Nat) (hn1 : 2 ≤ n) (hn : n ≤ 64) : ∃ r : Nat, IsFind (page ws) n r ∧ r < 18446744073709551616 ∧ ∀ b w, Tab w → At8 w b ws →
    Calls Tryd.prog 32 #[.pointer (some ⟨b, 0, none⟩), .int .u64 n, .int .u64 0] w (Fst r w) := by
  obtain ⟨r, hr⟩ := find_ex (page ws) n
  exact ⟨r, hr, hr.le, fun b w hT hc => small_core ws hw n hn1 hn r hr b w hT hc⟩

end Go.Proofs.YtnopidgeigdibaaDoor
