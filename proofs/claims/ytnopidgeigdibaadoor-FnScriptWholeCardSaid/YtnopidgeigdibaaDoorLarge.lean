/-
  findLargeN returns the first run of n free pages, or the greatest number where there is none. Conditions: n is from 65 to 512, it searches from 0, the eight words are below 2^64 and lie behind the pointer, the table deBruijn64tab lies as laid.
-/
import Derived.Test.YtnopidgeigdibaaDoorSmall
namespace Go.Proofs.YtnopidgeigdibaaDoor
open Go.RowKit

/-- Where the free pages ahead of word k begin, as the code keeps it. -/
def Beg (k z : Nat) (st : Int) : Prop := 0 < z → st = ((k * 64 - z : Nat) : Int)

set_option maxHeartbeats 1000000 in
theorem large_core (ws : Nat → Nat) (hw : W64 ws) (n : Nat) (hn1 : 64 < n) (hn : n ≤ 512) (r : Nat) (hr : IsFind (page ws) n r) (b : Nat) (w : World) (hT : Tab w) (hc : At8 w b ws) :
    Calls Tryd.prog 33 #[.pointer (some ⟨b, 0, none⟩), .int .u64 n, .int .u64 0] w (Fst r w) := by
  have HT := Lib.hid hT
  have HR := Lib.hid hr
  clear hT hr
  go_enter Tryd.func33, Tryd.ntmps33
  go_wp2_with fail
  go_loop [8, 9, 10, 11] (fun st z s i => ∃ (k zn : Nat) (stn sn : Int), k ≤ 8 ∧ Hid (La (page ws) n k zn) ∧ Hid (Beg k zn stn) ∧ st = .int .u64 stn ∧ z = .int .u64 zn ∧ s = .int .u64 sn ∧ i = .int .u64 k) (fun _ _ _ i => 8 - (intOf i).toNat)
  case atStart => exact ⟨0, 0, _, _, by omega, Sm.start _ (by omega), fun h => absurd h (by omega), rfl, rfl, rfl, rfl⟩
  case round =>
    obtain ⟨k, zn, stn, sn, hk, HF, HB, rfl, rfl, rfl, rfl⟩ := hrel
    obtain ⟨he1, he2, -⟩ := HF.out
    by_cases hlt : k < 8
    · have hc := hc k hlt
      have hx := hw k hlt
      have hN := not_eq (ws k) hx
      by_cases hz : cpl (ws k) = 0
      · have HZ := Lib.hid (La.full hw HF.out hlt hz)
        have hb : ((ws k : Int) == 18446744073709551615) = true := by rw [beq_iff_eq]; unfold cpl at hz; omega
        clear hz
        generalize ws k = x at hc hx hN hb
        go_wp2_with fail
        go_round
        case rel => exact ⟨k + 1, 0, _, _, by omega, HZ, fun h => absurd h (by omega), rfl, rfl, rfl, by go_num⟩
        case measure => simp [intOf]; omega
      · obtain ⟨t1, -, ht1, hcall1⟩ := tz_ex (cpl (ws k)) (cpl_lt _)
        obtain ⟨t, HZ, ht, hcall⟩ := tz_ex (ws k) hx
        obtain ⟨l, HL, hl64, hcalll⟩ := lz_ex (ws k) hx
        have HC1 := Lib.hid hcall1
        have HC := Lib.hid hcall
        have HCL := Lib.hid hcalll
        clear hcall1 hcall hcalll
        have hb : ((ws k : Int) == 18446744073709551615) = false := by rw [beq_eq_false_iff_ne]; unfold cpl at hz; omega
        clear hz
        by_cases hz0 : zn = 0
        · subst hz0
          have HX := Lib.hid (HF.out.fresh hn1 HL)
          clear HZ HL
          generalize cpl (ws k) = y at hN HC1
          generalize ws k = x at hc hx HC hN HCL hb
          go_wp2_with (first | (go_at_call 34; ((with_reducible refine (HC1.out _ HT.out).mono ?_); rintro e w' ⟨rfl, rfl⟩)) | (go_at_call 37; ((with_reducible refine (HCL.out _).mono ?_); rintro e w' ⟨rfl, rfl⟩)))
          all_goals
            go_round
            case rel => exact ⟨k + 1, l, _, _, by omega, HX, fun _ => by omega, rfl, rfl, rfl, by go_num⟩
            case measure => simp [intOf]; omega
        · have hzb : ((zn : Int) == 0) = false := by rw [beq_eq_false_iff_ne]; omega
          have hst := HB.out (by omega)
          by_cases hj : n ≤ zn + t
          · obtain rfl := (HF.out.joined hlt HZ hj).uniq HR.out
            have HST := Lib.hid hst
            clear HZ HL hst hz0 HCL
            generalize cpl (ws k) = y at hN HC1
            generalize ws k = x at hc hx HC hN hb
            go_wp2_with (first | (go_at_call 34; ((with_reducible refine (HC1.out _ HT.out).mono ?_); rintro e w' ⟨rfl, rfl⟩)) | (go_at_call 34; ((with_reducible refine (HC.out _ HT.out).mono ?_); rintro e w' ⟨rfl, rfl⟩)))
            all_goals (go_ret2; exact fst_mk HST.out)
          · by_cases htl : t < 64
            · have HX := Lib.hid (HF.out.next HZ htl (by omega) hn1 HL)
              clear HZ HL hst hz0
              generalize cpl (ws k) = y at hN HC1
              generalize ws k = x at hc hx HC hN HCL hb
              go_wp2_with (first | (go_at_call 34; ((with_reducible refine (HC1.out _ HT.out).mono ?_); rintro e w' ⟨rfl, rfl⟩)) | (go_at_call 34; ((with_reducible refine (HC.out _ HT.out).mono ?_); rintro e w' ⟨rfl, rfl⟩)) | (go_at_call 37; ((with_reducible refine (HCL.out _).mono ?_); rintro e w' ⟨rfl, rfl⟩)))
              all_goals
                go_round
                case rel => exact ⟨k + 1, l, _, _, by omega, HX, fun _ => by omega, rfl, rfl, rfl, by go_num⟩
                case measure => simp [intOf]; omega
            · have HX := Lib.hid (HF.out.more HZ (by omega) (by omega))
              have HBX : Hid (Beg (k + 1) (zn + 64) stn) := fun _ => by omega
              clear HZ HL hst hz0 HCL
              generalize cpl (ws k) = y at hN HC1
              generalize ws k = x at hc hx HC hN hb
              go_wp2_with (first | (go_at_call 34; ((with_reducible refine (HC1.out _ HT.out).mono ?_); rintro e w' ⟨rfl, rfl⟩)) | (go_at_call 34; ((with_reducible refine (HC.out _ HT.out).mono ?_); rintro e w' ⟨rfl, rfl⟩)))
              all_goals
                go_round
                case rel => exact ⟨k + 1, zn + 64, _, _, by omega, HX, HBX, rfl, by go_num, rfl, by go_num⟩
                case measure => simp [intOf]; omega
    · obtain rfl : k = 8 := by omega
      obtain rfl := (Sm.none HF.out).uniq HR.out
      go_wp2_with fail
      go_ret2
      exact fst_mk rfl

theorem large_ex (ws : Nat → Nat) (hw : W64 ws) (n : Nat) (hn1 : 64 < n) (hn : n ≤ 512) : ∃ r : Nat, IsFind (page ws) n r ∧ r < 18446744073709551616 ∧ ∀ b w, Tab w → At8 w b ws →
    Calls Tryd.prog 33 #[.pointer (some ⟨b, 0, none⟩), .int .u64 n, .int .u64 0] w (Fst r w) := by
  obtain ⟨r, hr⟩ := find_ex (page ws) n
  exact ⟨r, hr, hr.le, fun b w hT hc => large_core ws hw n hn1 hn r hr b w hT hc⟩

end Go.Proofs.YtnopidgeigdibaaDoor
