/-
  findBitRange64 returns where the first run of n ones begins, 64 where there is none. Conditions: n is from 1 to 64, the word is below 2^64, the table deBruijn64tab lies as laid.
-/
import Derived.Test.YtnopidgeigdibaaDoorTz
namespace Go.Proofs.YtnopidgeigdibaaDoor
open Go.RowKit

theorem wrap_u64_small (t : Nat) (h : t < 18446744073709551616) : IntKind.u64.wrap (t : Int) = (t : Int) := by
  rw [IntKind.wrap_u64]; omega

theorem and_div (c q : Nat) (h : c < 18446744073709551616) : bits BinOp.and IntKind.u64 (c : Int) ((c : Int) / 2 ^ q) = ((c &&& c / 2 ^ q : Nat) : Int) := by
  have e : ((c : Int) / 2 ^ q) = ((c / 2 ^ q : Nat) : Int) := by simp
  rw [e, bits_and_u64_nat c (c / 2 ^ q) h (Nat.lt_of_le_of_lt (Nat.div_le_self _ _) h)]

/-- Whether a run begins, and where, said by a Bool of the found place. -/
theorem fbr_core (c0 n r : Nat) (hc0 : c0 < 18446744073709551616) (hn1 : 1 ≤ n) (hn : n ≤ 64) (hr : IsRange c0 n r) (hr64 : r ≤ 64) (w : World) (hT : Tab w) :
    Calls Tryd.prog 30 #[.int .u64 c0, .int .u64 n] w fun e w' => e = .returned (.int .u64 r) ∧ w = w' := by
  have HT := Lib.hid hT
  clear hT
  have HR := Lib.hid hr
  clear hr
  have HS := Lib.hid (Fb.start hc0 hn1 hn)
  go_enter Tryd.func30, Tryd.ntmps30
  go_wp2_with fail
  go_loop [0, 5, 6] (fun c p k => ∃ cn pn kn : Nat, Hid (Fb c0 n cn pn kn) ∧ c = .int .u64 cn ∧ p = .int .u64 pn ∧ k = .int .u64 kn) (fun _ p _ => (intOf p).toNat)
  case atStart => exact ⟨c0, n - 1, 1, HS, rfl, by rw [Int.ofNat_sub hn1]; rfl, rfl⟩
  case round =>
    obtain ⟨cn, pn, kn, HF, rfl, rfl, rfl⟩ := hrel
    obtain ⟨h1, h2, h3, h4, h5, -⟩ := HF.out
    by_cases hp : 0 < pn
    · by_cases hpk : pn ≤ kn
      · have ha := and63 pn (by omega)
        have hx := and_div cn pn h1
        have HL := Lib.hid (HF.out.last hpk)
        have hlt : cn &&& cn / 2 ^ pn < 18446744073709551616 := and_lt h1
        generalize cn &&& cn / 2 ^ pn = c' at hx HL hlt
        obtain ⟨t, hz, ht, hcall⟩ := tz_ex c' hlt
        have HC := Lib.hid hcall
        clear hcall
        obtain rfl : t = r := (IsRange.of_tz HL.out hz).uniq HR.out
        clear hz
        go_wp2_with (go_at_call 34; refine (HC.out _ HT.out).mono ?_; rintro e w' ⟨rfl, rfl⟩)
        go_ret
        exact ⟨rfl, rfl⟩
      · have ha := and63 kn (by omega)
        have hx := and_div cn kn h1
        have HL := Lib.hid (HF.out.half (by omega))
        have hlt : cn &&& cn / 2 ^ kn < 18446744073709551616 := and_lt h1
        generalize cn &&& cn / 2 ^ kn = c' at hx HL hlt
        by_cases hc' : c' = 0
        · subst hc'
          obtain rfl : 64 = r := (IsRange.none HL.out rfl).uniq HR.out
          go_wp2_with fail
          go_ret
          exact ⟨rfl, rfl⟩
        · have hb : ((c' : Int) == 0) = false := by rw [beq_eq_false_iff_ne]; omega
          clear hc'
          go_wp2_with fail
          go_round
          case rel => exact ⟨c', pn - kn, 2 * kn, HL, rfl, by rw [Int.ofNat_sub (by omega)], by rw [Int.mul_comm]; rfl⟩
          case measure => simp [intOf]; omega
    · obtain rfl : pn = 0 := by omega
      obtain ⟨t, hz, ht, hcall⟩ := tz_ex cn h1
      have HC := Lib.hid hcall
      clear hcall
      have HL : ∀ i, cn.testBit i = true ↔ Ones c0 i n := HF.out.2.2.2.2.2
      obtain rfl : t = r := (IsRange.of_tz HL hz).uniq HR.out
      clear hz HL
      go_wp2_with (go_at_call 34; refine (HC.out _ HT.out).mono ?_; rintro e w' ⟨rfl, rfl⟩)
      go_ret
      exact ⟨rfl, rfl⟩

theorem range_ex (c0 n : Nat) : ∃ r, IsRange c0 n r := by
  by_cases h : ∃ i, i < 64 ∧ Ones c0 i n
  · obtain ⟨r, ⟨h1, h2⟩, hm⟩ := first_of (fun i => i < 64 ∧ Ones c0 i n) h
    exact ⟨r, by omega, fun i hi ho => hm i hi ⟨by omega, ho⟩, fun _ => h2⟩
  · exact ⟨64, by omega, fun i hi ho => h ⟨i, hi, ho⟩, fun h => by omega⟩

theorem fbr_ex (c0 n : Nat) (hc0 : c0 < 18446744073709551616) (hn1 : 1 ≤ n) (hn : n ≤ 64) : ∃ r : Nat, IsRange c0 n r ∧ r ≤ 64 ∧ ∀ w, Tab w →
    Calls Tryd.prog 30 #[.int .u64 c0, .int .u64 n] w fun e w' => e = .returned (.int .u64 r) ∧ w = w' := by
  obtain ⟨r, hr⟩ := range_ex c0 n
  exact ⟨r, hr, hr.1, fun w hT => fbr_core c0 n r hc0 hn1 hn hr hr.1 w hT⟩

end Go.Proofs.YtnopidgeigdibaaDoor
